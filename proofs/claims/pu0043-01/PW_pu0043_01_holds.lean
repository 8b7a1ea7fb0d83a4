import PyProof.Rows.All
import Wide.All
import OpenK.AllK
import Wide.FinOn
import PyProof.MinMaxWalk
import PyProof.SliceList
import PyProof.SumWalk
import PyProof.SliceMore
import PyProof.NeKinds
import Lean
import PySem.Challenge.RW_pu0043_01
set_option Elab.async false
set_option maxRecDepth 100000
set_option maxHeartbeats 0
set_option linter.all false
open PySem PySem.W PyProof.Rows
namespace Mine
local macro_rules | `(tactic| k_head)=>`(tactic| z_head)
open_top hd for PySem.Challenge.rw_pu0043_01
end Mine
open PySem.W.X
set_option compiler.extract_closed false
set_option bootstrap.genMatcherCode false
set_option genSizeOf false
set_option genInjectivity false
noncomputable section
namespace Mine

noncomputable abbrev denF:Code->Sem Fin:=PySem.W.Fast.tw11892475500146522536 PySem.W.Fast.tw14364793385576792824
theorem yk:denote table=denF:=by
 unfold denF;rw [←PySem.W.Fast.te11892475500146522536,←PySem.W.Fast.te14364793385576792824,←table_eq_tree]
noncomputable abbrev quietF:Code->Bool:=PySem.W.ZFast.zw17772548960776305114
theorem Xk:@Code.quiet=quietF:=PySem.W.ZFast.ze17772548960776305114
noncomputable abbrev weightF:Code->Nat:=PySem.W.ZFast.zw1243936422450756474
theorem YA:@Code.weight=weightF:=PySem.W.ZFast.ze1243936422450756474
noncomputable def Qa(enter:Sem Unit)(self:Addr)(fd:FuncData)(args:Args)(compiled:Str):Sem Fin:=do
 let env←newFunctionEnv fd.scope fd.globals fd.closure (←bindArgs fd args) (compiled++".<locals>.") (some self) fd.code none fd.builtins
 enter
 let code:Code:=match fd.body with
  | .stmts b=>.func b env
  | .expr e=>.expr e env
 match fd.scope.isGenerator,fd.scope.isCoroutine with
 | false,false=>again code
 | true,false=>ret (←newGenerator code fd.name fd.qualname)
 | false,true=>ret (←newCoroutine code fd.name fd.qualname)
 | true,true=>ret (←newAsyncGenerator code fd.name fd.qualname)
def qnF(f:Str->Sem Fin)(d:Sem Fin):Value->Sem Fin
 | .str q _=>f q
 | _=>d
def cdq(d:Sem Fin)(f:Value->Sem Fin):Value->Sem Fin
 | .none=>d
 | c=>f c
noncomputable def VF(enter:Sem Unit)(self:Addr)(fd:FuncData)(args:Args):Sem Fin:=
 cdq (Qa enter self fd args fd.qualname) (fun c=>field c 1 >>= qnF (Qa enter self fd args) (Qa enter self fd args fd.qualname)) fd.code
theorem GK:callFunction=VF enterFrame:=rfl
noncomputable def yy:Sem Unit:=do
 match←nsGet cStatics "sys.recursionlimit" with
 | some _=>unsupported "limit"
 | none=>pure ()
section
variable{M:Model}{A:Around}{Γ:Ctx}
theorem Ud(hΓ:Γ.In A)(hd:A.depth<recursionLimit){Q:Unit->Pos->Shared->Prop}{E:Value->Pos->Shared->Prop}{p:Pos}{s:Shared}(h1:Sem.wp M Γ yy Q E p s):Sem.wp M Γ enterFrame Q E p s:=by
 have hge:=frameCount_ge ((Γ.code,p)::Γ.below);rw [frameCount_cons] at hge;have hdep:=hΓ.2.1;have hsum:((((Γ.code,p)::Γ.below).map (·.1)).map (·.frames)).sum+((((Γ.code,p)::Γ.below).map (·.1)).filter Code.isCreation).length<recursionLimit:=by omega
 have hlt: ¬((((Γ.code,p)::Γ.below).map (·.1)).map (·.frames)).sum>=recursionLimit:=by omega
 have hlt': ¬((((Γ.code,p)::Γ.below).map (·.1)).map (·.frames)).sum+((((Γ.code,p)::Γ.below).map (·.1)).filter Code.isCreation).length>=recursionLimit:=by omega
 simp only [yy,Sem.wp_bind'] at h1;simp only [enterFrame,currentRecursionLimit,Sem.wp_bind'];show Sem.wp M Γ (nsGet cStatics "sys.recursionlimit") _ _ p s;refine Sem.wp_mono M Γ _ (fun r p' s' hr=>?_) (fun _ _ _ he=>he) p s h1;cases r with
 | some v=>exact hr.elim
 | none=>
  show Sem.wp M Γ (if nearTheLimitUnderAClaim (((Γ.code,p)::Γ.below).map (·.1)) (((((Γ.code,p)::Γ.below).map (·.1)).map (·.frames)).sum+((((Γ.code,p)::Γ.below).map (·.1)).filter Code.isCreation).length) recursionLimit=true then _ else _) _ _ p' s';rw [if_neg (by rw [not_nearTheLimit hΓ hd];exact Bool.false_ne_true)];show Sem.wp M Γ (if ((((Γ.code,p)::Γ.below).map (·.1)).map (·.frames)).sum>=recursionLimit then _ else _) _ _ p' s';rw [if_neg hlt];show Sem.wp M Γ (if ((((Γ.code,p)::Γ.below).map (·.1)).map (·.frames)).sum+((((Γ.code,p)::Γ.below).map (·.1)).filter Code.isCreation).length>=recursionLimit then _ else _) _ _ p' s';rw [if_neg hlt'];exact hr
theorem XN{α β:Type}{m:Sem α}{f g:α->Sem β}{Q:β->Pos->Shared->Prop}{E:Value->Pos->Shared->Prop}{p:Pos}{s:Shared} (hf:∀a p' s',Sem.wp M Γ (f a) Q E p' s'->Sem.wp M Γ (g a) Q E p' s')(h:Sem.wp M Γ (m >>= f) Q E p s):Sem.wp M Γ (m >>= g) Q E p s:=by
 rw [Sem.wp_bind'] at h ⊢;exact Sem.wp_mono M Γ m (fun a p' s'=>hf a p' s') (fun _ _ _ e=>e) p s h
theorem QS{α:Type}{m m':Sem Unit}{f:Unit->Sem α}{Q:α->Pos->Shared->Prop}{E:Value->Pos->Shared->Prop}{p:Pos}{s:Shared} (hm:∀(Q:Unit->Pos->Shared->Prop),Sem.wp M Γ m Q E p s->Sem.wp M Γ m' Q E p s)(h:Sem.wp M Γ (m >>= f) Q E p s):Sem.wp M Γ (m' >>= f) Q E p s:=by
 rw [Sem.wp_bind'] at h ⊢;exact hm _ h
theorem Tr{f g:Str->Sem Fin}{d e:Sem Fin}{Q:Fin->Pos->Shared->Prop}{E:Value->Pos->Shared->Prop}(hf:∀q p s,Sem.wp M Γ (f q) Q E p s->Sem.wp M Γ (g q) Q E p s)(hd:∀p s,Sem.wp M Γ d Q E p s->Sem.wp M Γ e Q E p s)(v:Value):
  ∀p s,Sem.wp M Γ (qnF f d v) Q E p s->Sem.wp M Γ (qnF g e v) Q E p s:=by
 cases v with
 | str q t=>exact hf q
 | _=>exact hd
theorem Wk{f g:Value->Sem Fin}{d e:Sem Fin}{Q:Fin->Pos->Shared->Prop}{E:Value->Pos->Shared->Prop}(hf:∀q p s,Sem.wp M Γ (f q) Q E p s->Sem.wp M Γ (g q) Q E p s)(hd:∀p s,Sem.wp M Γ d Q E p s->Sem.wp M Γ e Q E p s)(v:Value):
  ∀p s,Sem.wp M Γ (cdq d f v) Q E p s->Sem.wp M Γ (cdq e g v) Q E p s:=by
 cases v with
 | none=>exact hd
 | _=>exact hf _
theorem Wu(hΓ:Γ.In A)(hd:A.depth<recursionLimit){a:Addr}{fd:FuncData}{args:Args}{Q:Fin->Pos->Shared->Prop}{E:Value->Pos->Shared->Prop}{p:Pos}{s:Shared} (h:Sem.wp M Γ (VF yy a fd args) Q E p s):Sem.wp M Γ (VF enterFrame a fd args) Q E p s:=by
 have key:∀(compiled:Str) p' s',Sem.wp M Γ (Qa yy a fd args compiled) Q E p' s'->Sem.wp M Γ (Qa enterFrame a fd args compiled) Q E p' s':=fun compiled p' s' hk=>
  XN (fun b p1 s1 h1=>XN (fun env p2 s2 h2=>QS (fun Q' hq=>Ud hΓ hd hq) h2) h1) hk
 exact Wk (fun q p s=>XN (Tr key (key _))) (key _) _ _ _ h
end
noncomputable def Wt:Code->Sem Fin
 | .call (.ref a) args=>do
  let o←load a
  match o.data with
  | .func fd=>VF yy a fd args
  | _=>unsupported "no def"
 | _=>unsupported "no call"
theorem BR{prog:Program}{w:World}{A:Around}{c:Code}{Q:Fin->Shared->Prop}{E:Value->Shared->Prop}{s:Shared}(hd:A.depth<recursionLimit) (h:wpAny (model prog w) A (Wt c) Q E s):wpAny (model prog w) A (denote table c) Q E s:=by
 intro Γ p hΓ;have h1:=h Γ p hΓ;cases c with
 | call f args=>
  cases f with
  | ref a=>
   show Sem.wp _ Γ (callAny (.ref a) args) _ _ p s;unfold Wt at h1;unfold callAny;refine XN (fun o p' s' ho=>?_) h1;generalize hdt:o.data=dt at ho ⊢;cases dt with
   | func fd=>
    rw [GK];exact Wu hΓ hd ho
   | _=>exact ho.elim
  | _=>exact h1.elim
 | _=>exact h1.elim
noncomputable def Mh:Sem Unit:=
 PySem.W.R.bindR (PySem.W.Fast.tw13143150168775219229 2 ⟨⟨[115,121,115,46,114,101,99,117,114,115,105,111,110,108,105,109,105,116]⟩⟩) fun r=>match r with
  | some _=>.unsupported "limit"
  | none=>.pure ()
noncomputable def yT(a:Addr)(fd:FuncData)(args:Args)(compiled:Str):Sem Fin:=
 PySem.W.R.bindR (PySem.W.Fast.tw9782568553167038054 fd args) fun b=>
 PySem.W.R.bindR (PySem.W.Fast.tw11113344188204177931 fd.scope fd.globals fd.closure b (compiled++(⟨⟨[46,60,108,111,99,97,108,115,62,46]⟩⟩:Str)) (some a) fd.code none fd.builtins) fun env=>
 PySem.W.R.bindR Mh fun _=>
  match fd.scope.isGenerator,fd.scope.isCoroutine with
  | false,false=>.pure (.again (match fd.body with
   | .stmts b=>.func b env
   | .expr e=>.expr e env))
  | _,_=>.unsupported "generator"
noncomputable def XQ:Code->Sem Fin
 | .call (.ref a) args=>.load a none fun o=>match o.data with
  | .func fd=>cdq (yT a fd args fd.qualname) (fun c=>PySem.W.R.bindR (PySem.W.Fast.tw6609576154772507232 c 1) (qnF (yT a fd args) (yT a fd args fd.qualname))) fd.code
  | _=>.unsupported "no def"
 | _=>.unsupported "no call"
theorem Bg:Mh=yy:=by
 unfold Mh;rw [←PySem.W.R.bindR_eq,←PySem.W.Fast.te13143150168775219229]
 rfl
theorem qu{M:Model}{Γ:Ctx}{a:Addr}{fd:FuncData}{args:Args}{compiled:Str}{Q:Fin->Pos->Shared->Prop}{E:Value->Pos->Shared->Prop}{p:Pos}{s:Shared} (h:Sem.wp M Γ (yT a fd args compiled) Q E p s):Sem.wp M Γ (Qa yy a fd args compiled) Q E p s:=by
 unfold yT at h;rw [←PySem.W.R.bindR_eq,←PySem.W.Fast.te9782568553167038054,←PySem.W.Fast.te11113344188204177931,Bg] at h;refine XN (fun b p1 s1 h1=>?_) h;refine XN (fun env p2 s2 h2=>?_) h1;refine XN (fun u p3 s3 h3=>?_) h2;generalize fd.scope.isGenerator=x at h3 ⊢;generalize fd.scope.isCoroutine=y at h3 ⊢;cases x<;>cases y
 ·exact h3
 all_goals exact h3.elim
theorem Jb{prog:Program}{w:World}{A:Around}{c:Code}{Q:Fin->Shared->Prop}{E:Value->Shared->Prop}{s:Shared}(hd:A.depth<recursionLimit) (h:wpAny (model prog w) A (XQ c) Q E s):wpAny (model prog w) A (denote table c) Q E s:=by
 refine BR hd fun Γ p hΓ=>?_;have h1:=h Γ p hΓ;cases c with
 | call f args=>
  cases f with
  | ref a=>
   unfold XQ at h1;unfold Wt;refine XN (m:=load a) (fun o p' s' ho=>?_) h1;generalize hdt:o.data=dt at ho ⊢;cases dt with
   | func fd=>
    refine Wk (fun q p s hw=>?_) (fun p s=>qu) _ _ _ ho;rw [←PySem.W.R.bindR_eq,←PySem.W.Fast.te6609576154772507232] at hw;exact XN (Tr (fun _ _ _=>qu) fun _ _=>qu) hw
   | _=>exact ho.elim
  | _=>exact h1.elim
 | _=>exact h1.elim

noncomputable def pget(P:Params)(a:Addr):Option Obj:=match Nat.blt a 265 with
 | true=>(match Nat.beq a 239 with
  | true=>none
  | false=>(hd.ktop_528 P).get a)
 | false=>none
theorem qh{P:Params}{a:Addr}(h:265<=a\/a=239):pget P a=none:=by
 unfold pget;cases hb:Nat.blt a 265 with
 | false=>rfl
 | true=>
  have hlt:a<265:=Nat.le_of_ble_eq_true hb;rcases h with h | h
  ·exact absurd hlt (Nat.not_lt.mpr h)
  ·subst h;rfl
structure Base where
 prog:Program
 P:Params
 n:Nat
 t:Nat
 cm:Bool
structure Fm where
 c:Code
 k:Result->Sem Fin
 d:Nat
structure Pr where
 v:Value
 di:Nat:=0
 rd:List Nat:=[]
 w:Option (Nat×Obj):=none
 al:List Obj:=[]
structure Ob where
 c:Code
 t:Nat
 n:Nat
 v:Value
 di:Nat:=0
 rd:List (Addr×Obj):=[]
 w:Option (Addr×Obj×Obj):=none
 al:List Obj:=[]
noncomputable def pickL(l:List (Addr×Obj)):List Nat->Option (List (Addr×Obj))
 | []=>some []
 | j::js=>match l[j]? with
  | none=>none
  | some p=>match pickL l js with
   | none=>none
   | some ps=>some (p::ps)
theorem Qc{l:List (Addr×Obj)}:∀{js:List Nat} {ps:List (Addr×Obj)},pickL l js=some ps->∀p∈ps,p∈l
 | [],ps,h=>by cases h;intro p hp;cases hp
 | j::js,ps,h=>by
  unfold pickL at h
  split at h
  ·cases h
  ·rename_i p hp
   split at h
   ·cases h
   ·rename_i qs hq;cases h;intro x hx;rcases List.mem_cons.mp hx with rfl | hx
    ·exact List.mem_of_getElem? hp
    ·exact Qc hq x hx
noncomputable def allocL(n:Nat):Nat->List Obj->List (Addr×Obj)->List (Addr×Obj)
 | _,[],l=>l
 | m,o::os,l=>allocL n (m+1) os ((n+m,o)::l)
inductive Res
 | bad (why:Nat)
 | fin (f:Fin)
 | err (e:Value)
 | stop (c' c:Code) (k:Result->Sem Fin) (K:List Fm) (d:Nat)
 | hold (k:List (Code×Pos)->Sem Fin) (c:Code) (K:List Fm) (d:Nat)
structure Out where
 res:Res
 led:List (Addr×Obj)
 m:Nat
 i:Nat
 eqs:List (Addr×Addr)
 obs:List Ob
 rest:List Nat
noncomputable def ev(B:Base):Nat->List Nat->List Pr->Code->Sem Fin->List Fm->Nat->List (Addr×Obj)->Nat->Nat->List (Addr×Addr)->List Ob->Out
 | 0,O,_,_,_,_,_,l,m,i,eqs,obs=>⟨.bad 0,l,m,i,eqs,obs,O⟩
 | f+1,O,R,c,t,K,d,l,m,i,eqs,obs=>match t with
  | .pure fin=>match K with
   | []=>match fin with
    | .done fl=>⟨.fin (.done fl),l,m,i,eqs,obs,O⟩
    | .again c'=>match B.cm with
     | false=>⟨.fin (.again c'),l,m,i,eqs,obs,O⟩
     | true=>match O with
      | 0::O=>match quietF c' with
       | false=>⟨.bad 1,l,m,i,eqs,obs,O⟩
       | true=>ev B f O R c' (denF c') [] (weightF c') l m i eqs obs
      | 1::O=>match quietF c' with
       | false=>⟨.bad 1,l,m,i,eqs,obs,O⟩
       | true=>match Nat.ble (weightF c') 150 with
        | true=>ev B f O R c' (XQ c') [] (weightF c') l m i eqs obs
        | false=>⟨.bad 2,l,m,i,eqs,obs,O⟩
      | O=>⟨.fin (.again c'),l,m,i,eqs,obs,O⟩
   | fm::K'=>match fin with
    | .done fl=>ev B f O R fm.c (fm.k (.ok fl)) K' fm.d l m i eqs obs
    | .again c'=>match quietF c' with
     | false=>⟨.bad 1,l,m,i,eqs,obs,O⟩
     | true=>match O with
      | 0::O=>ev B f O R c' (denF c') (fm::K') (fm.d+weightF c') l m i eqs obs
      | 1::O=>match Nat.ble (fm.d+weightF c') 150 with
       | true=>ev B f O R c' (XQ c') (fm::K') (fm.d+weightF c') l m i eqs obs
       | false=>⟨.bad 2,l,m,i,eqs,obs,O⟩
      | _=>⟨.bad 3,l,m,i,eqs,obs,O⟩
  | .raise e=>match K with
   | []=>⟨.err e,l,m,i,eqs,obs,O⟩
   | fm::K'=>ev B f O R fm.c (fm.k (.error e)) K' fm.d l m i eqs obs
  | .rule _ k=>ev B f O R c (k ()) K d l m i eqs obs
  | .at _ k=>ev B f O R c (k ()) K d l m i eqs obs
  | .point _ k=>ev B f O R c (k ()) K d l m i eqs obs
  | .ask k=>ev B f O R c (k ⟨B.prog,B.P⟩) K d l m i eqs obs
  | .fresh k=>ev B f O R c (k (B.t+i)) K d l m (i+1) eqs obs
  | .handled own k=>match own with
   | false=>ev B f O R c (k none) K d l m i eqs obs
   | true=>⟨.bad 4,l,m,i,eqs,obs,O⟩
  | .load a _ k=>match O with
   | []=>⟨.bad 5,l,m,i,eqs,obs,O⟩
   | 0::O=>match pget B.P a with
    | some o=>ev B f O R c (k o) K d l m i eqs obs
    | none=>⟨.bad 6,l,m,i,eqs,obs,O⟩
   | (j+1)::O=>match l[j]? with
    | some p=>ev B f O R c (k p.2) K d l m i ((a,p.1)::eqs) obs
    | none=>⟨.bad 7,l,m,i,eqs,obs,O⟩
  | .update a _ g k=>match O with
   | (j+1)::O=>match l[j]? with
    | some p=>match (g p.2).isFreed with
     | false=>ev B f O R c (k ()) K d (l.set j (p.1,g p.2)) m i ((a,p.1)::eqs) obs
     | true=>⟨.bad 8,l,m,i,eqs,obs,O⟩
    | none=>⟨.bad 9,l,m,i,eqs,obs,O⟩
   | _=>⟨.bad 10,l,m,i,eqs,obs,O⟩
  | .alloc o k=>match o.isFreed with
   | false=>ev B f O R c (k (B.n+m)) K d ((B.n+m,o)::l) (m+1) i eqs obs
   | true=>⟨.bad 11,l,m,i,eqs,obs,O⟩
  | .call c' hd _ _ k=>match hd with
   | some _=>⟨.bad 12,l,m,i,eqs,obs,O⟩
   | none=>match O with
    | []=>⟨.bad 13,l,m,i,eqs,obs,O⟩
    | 0::O=>ev B f O R c' (denF c') (⟨c,k,d⟩::K) (d+weightF c') l m i eqs obs
    | 1::O=>match Nat.ble (d+weightF c') 150 with
     | true=>ev B f O R c' (XQ c') (⟨c,k,d⟩::K) (d+weightF c') l m i eqs obs
     | false=>⟨.bad 14,l,m,i,eqs,obs,O⟩
    | 2::O=>match Nat.ble d 150 with
     | false=>⟨.bad 18,l,m,i,eqs,obs,O⟩
     | true=>match R with
     | []=>⟨.bad 15,l,m,i,eqs,obs,O⟩
     | pr::R=>match pickL l pr.rd with
      | none=>⟨.bad 19,l,m,i,eqs,obs,O⟩
      | some ps=>match pr.w with
       | none=>match pr.al.all fun o=>!o.isFreed with
        | false=>⟨.bad 17,l,m,i,eqs,obs,O⟩
        | true=>ev B f O R c (k (.ok (.ret pr.v))) K d (allocL B.n m pr.al l) (m+pr.al.length) (i+pr.di) eqs ({c:=c',t:=B.t+i,n:=B.n+m,v:=pr.v,di:=pr.di,rd:=ps,al:=pr.al}::obs)
       | some (j,o')=>match l[j]? with
        | none=>⟨.bad 16,l,m,i,eqs,obs,O⟩
        | some p=>ev B f O R c (k (.ok (.ret pr.v))) K d (l.set j (p.1,o')) m (i+pr.di) eqs ({c:=c',t:=B.t+i,n:=B.n+m,v:=pr.v,di:=pr.di,rd:=ps,w:=some (p.1,p.2,o')}::obs)
    | _::O=>⟨.stop c' c k K d,l,m,i,eqs,obs,O⟩
  | .stack k=>⟨.hold k c K d,l,m,i,eqs,obs,O⟩
  | _=>⟨.bad 20,l,m,i,eqs,obs,O⟩
def Turned(a:Addr)(o:Obj)(h h':Heap):Prop:=h'.objs.size=h.objs.size/\h'.get? a=some o/\∀b,b≠a->h'.get? b=h.get? b
def FK(h:Heap):List Obj->Heap
 | []=>h
 | o::os=>FK (h.push o) os
structure Prog (P:Params) (h:Heap):Prop where
 prog:∀a o,pget P a=some o->h.get? a=some o
 low:265<=h.objs.size
def Ob.Holds(P:Params)(M:Model)(b:Ob):Prop:=∀(A:Around) (R:Result->Shared->Prop) (s:Shared),A.handled=none->A.depth+50<=recursionLimit->Prog P s.heap->s.toks=b.t->s.heap.objs.size=b.n->
 (∀p∈b.rd,s.heap.get? p.1=some p.2)->match b.w with
 | none=>R (.ok (.ret b.v)) {s with heap:=FK s.heap b.al,toks:=b.t+b.di}->codeAny M A b.c R s
 | some (a,o,o')=>s.heap.get? a=some o->(∀h',Turned a o' s.heap h'->R (.ok (.ret b.v)) {s with heap:=h',toks:=b.t+b.di})->codeAny M A b.c R s
noncomputable def ar(cm:Bool)(A:Around):List Fm->Code->Around
 | [],c=>(match cm with | true=>A.under c | false=>A)
 | fm::K,c=>((ar cm A K fm.c).mark none).under c
def asR(Q:Fin->Shared->Prop)(E:Value->Shared->Prop):Result->Shared->Prop
 | .ok f,s'=>Q (.done f) s'
 | .error e,s'=>E e s'
def Rs(cm:Bool)(M:Model)(A:Around)(Q:Fin->Shared->Prop)(E:Value->Shared->Prop):List Fm->(Fin->Shared->Prop)×(Value->Shared->Prop)
 | []=>(match cm with
  | false=>Q
  | true=>fun fin s'=>match fin with
   | .done f=>Q (.done f) s'
   | .again c'=>c'.quiet=true/\codeAny M A c' (asR Q E) s',E)
 | fm::K=>
  (fun fin s'=>match fin with
   | .done f=>wpAny M (ar cm A K fm.c) (fm.k (.ok f)) (Rs cm M A Q E K).1 (Rs cm M A Q E K).2 s'
   | .again c'=>c'.quiet=true/\codeAny M ((ar cm A K fm.c).mark none) c' (fun r s''=>wpAny M (ar cm A K fm.c) (fm.k r) (Rs cm M A Q E K).1 (Rs cm M A Q E K).2 s'') s',
   fun e s'=>wpAny M (ar cm A K fm.c) (fm.k (.error e)) (Rs cm M A Q E K).1 (Rs cm M A Q E K).2 s')
def Goes(cm:Bool)(M:Model)(A:Around)(Q:Fin->Shared->Prop)(E:Value->Shared->Prop)(K:List Fm)(c:Code)(t:Sem Fin)(s:Shared):Prop:=
 wpAny M (ar cm A K c) t (Rs cm M A Q E K).1 (Rs cm M A Q E K).2 s
structure Rep (B:Base) (h₀:Heap) (as:List Addr) (h:Heap) (l:List (Addr×Obj)) (m:Nat):Prop where
 size:h.objs.size=B.n+m
 prog:∀a o,pget B.P a=some o->h.get? a=some o
 own:∀p∈l,h.get? p.1=some p.2
 nodup:(l.map (·.1)).Nodup
 loc:∀p∈l,p.1∈as\/B.n<=p.1
 apart:∀p∈l,265<=p.1\/p.1=239
 keep:∀b o,h₀.get? b=some o->b∉as->h.get? b=some o
 old:h₀.objs.size=B.n
 low:265<=B.n
theorem Rep.alloc{B:Base}{h₀ h:Heap}{as:List Addr}{l:List (Addr×Obj)}{m:Nat}(D:Rep B h₀ as h l m){o:Obj}(hf:o.isFreed=false):Rep B h₀ as (h.push o) ((B.n+m,o)::l) (m+1):=by
 have hs:=D.size;refine ⟨by rw [Heap.size_push,hs,Nat.add_assoc],fun a o' e=>Heap.get?_push_of_some _ (D.prog a o' e),fun p hp=>?_,?_,fun p hp=>?_,fun p hp=>?_,fun b o' e hb=>Heap.get?_push_of_some _ (D.keep b o' e hb),D.old,D.low⟩
 ·rcases List.mem_cons.mp hp with rfl | hp
  ·rw [←hs];exact Heap.get?_push_size _ hf
  ·exact Heap.get?_push_of_some _ (D.own p hp)
 ·rw [List.map_cons];refine List.nodup_cons.mpr ⟨fun hm=>?_,D.nodup⟩;obtain ⟨p,hp,e⟩:=List.mem_map.mp hm;have:=Heap.lt_size (D.own p hp);rw [e,hs] at this;exact absurd this (Nat.lt_irrefl _)
 ·rcases List.mem_cons.mp hp with rfl | hp
  ·exact .inr (Nat.le_add_right _ _)
  ·exact D.loc p hp
 ·rcases List.mem_cons.mp hp with rfl | hp
  ·exact .inl (Nat.le_trans D.low (Nat.le_add_right _ _))
  ·exact D.apart p hp
theorem Rep.allocL{B:Base}{h₀:Heap}{as:List Addr}:∀(al:List Obj) {h:Heap} {l:List (Addr×Obj)} {m:Nat},Rep B h₀ as h l m->(al.all fun o=>!o.isFreed)=true->Rep B h₀ as (FK h al) (Mine.allocL B.n m al l) (m+al.length)
 | [],_,_,_,D,_=>D
 | o::os,h,l,m,D,ha=>by
  rw [List.all_cons,Bool.and_eq_true] at ha;have D':=D.alloc (o:=o) (by simpa using ha.1);have:=Rep.allocL os D' ha.2;rw [List.length_cons,Nat.add_comm os.length 1,←Nat.add_assoc];exact this
theorem JI{l:List (Addr×Obj)}{j:Nat}{p:Addr×Obj}{o:Obj}(hj:l[j]? =some p):(l.set j (p.1,o)).map (·.1)=l.map (·.1):=by
 rw [List.map_set];apply List.ext_getElem?;intro i;rw [List.getElem?_set]
 split
 ·rename_i h;subst h;rw [List.getElem?_map,hj];obtain ⟨hl,_⟩:=List.getElem?_eq_some_iff.mp hj;rw [List.length_map,if_pos hl];rfl
 ·rfl
theorem Rep.turned{B:Base}{h₀ h h':Heap}{as:List Addr}{l:List (Addr×Obj)}{m:Nat}(D:Rep B h₀ as h l m){j:Nat}{p:Addr×Obj}{o:Obj}(hj:l[j]? =some p)(T:Turned p.1 o h h'):Rep B h₀ as h' (l.set j (p.1,o)) m:=by
 have hm:=List.mem_of_getElem? hj;obtain ⟨T1,T2,T3⟩:=T;have hmem:∀q∈l.set j (p.1,o),q=(p.1,o)\/(q∈l/\q.1≠p.1):=fun q hq=>by
  rcases List.mem_or_eq_of_mem_set hq with h1 | h1
  ·by_cases e:q.1=p.1
   ·left;have hnd:((l.set j (p.1,o)).map (·.1)).Nodup:=by rw [JI hj];exact D.nodup
    obtain ⟨hl,_⟩:=List.getElem?_eq_some_iff.mp hj;exact key_unique hnd hq (List.mem_set hl _) e
   ·exact .inr ⟨h1,e⟩
  ·exact .inl h1
 refine ⟨T1.trans D.size,fun a o' e=>?_,fun q hq=>?_,by rw [JI hj];exact D.nodup,fun q hq=>?_,fun q hq=>?_,fun b o' e hb=>?_,D.old,D.low⟩
 ·have ne:a≠p.1:=fun z=>by
   rw [z,qh (D.apart p hm)] at e;cases e
  exact (T3 a ne).trans (D.prog a o' e)
 ·rcases hmem q hq with rfl | ⟨h1,h2⟩
  ·exact T2
  ·exact (T3 _ h2).trans (D.own q h1)
 ·rcases hmem q hq with rfl | ⟨h1,_⟩
  ·exact D.loc p hm
  ·exact D.loc q h1
 ·rcases hmem q hq with rfl | ⟨h1,_⟩
  ·exact D.apart p hm
  ·exact D.apart q h1
 ·have ne:b≠p.1:=fun z=>by
   subst z;rcases D.loc p hm with h1 | h1
   ·exact hb h1
   ·have:=Heap.lt_size e;rw [D.old] at this;exact absurd this (Nat.not_lt.mpr h1)
  exact (T3 b ne).trans (D.keep b o' e hb)
theorem Turned.update{h:Heap}{a:Addr}{o:Obj}{f:Obj->Obj}(ho:h.get? a=some o)(hf:(f o).isFreed=false):Turned a (f o) h (h.update a f):=
 ⟨Heap.size_after_update ..,Heap.get?_update_self f ho hf,fun _ hb=>Heap.get?_update_other h f (Ne.symm hb)⟩
theorem Rep.toProg{B:Base}{h₀ h:Heap}{as:List Addr}{l:List (Addr×Obj)}{m:Nat}(D:Rep B h₀ as h l m):Prog B.P h:=⟨D.prog,by rw [D.size];exact Nat.le_trans D.low (Nat.le_add_right _ _)⟩
def Gr(eqs:List (Addr×Addr))(obs:List Ob)(o:Out):Prop:=(∀x∈eqs,x∈o.eqs)/\(∀x∈obs,x∈o.obs)
theorem Gr.e{e:Addr×Addr}{eqs:List (Addr×Addr)}{obs:List Ob}{o:Out}(h:Gr (e::eqs) obs o):Gr eqs obs o:=⟨fun x hx=>h.1 x (.tail _ hx),h.2⟩
theorem Gr.o{e:Ob}{eqs:List (Addr×Addr)}{obs:List Ob}{o:Out}(h:Gr eqs (e::obs) o):Gr eqs obs o:=⟨h.1,fun x hx=>h.2 x (.tail _ hx)⟩
theorem Gr.z{eqs:List (Addr×Addr)}{obs:List Ob}{r:Res}{l:List (Addr×Obj)}{m i:Nat}{O:List Nat}:Gr eqs obs ⟨r,l,m,i,eqs,obs,O⟩:=⟨fun _ h=>h,fun _ h=>h⟩
theorem Gr.b{eqs:List (Addr×Addr)}{obs:List Ob}{b:Bool}{F:Bool->Out}(h1:Gr eqs obs (F false))(h2:Gr eqs obs (F true)):Gr eqs obs (F b):=by
 cases b
 ·exact h1
 ·exact h2
theorem N6(B:Base):∀(f:Nat) (O:List Nat) (R:List Pr) (c:Code) (t:Sem Fin) (K:List Fm) (d:Nat) (l:List (Addr×Obj)) (m i:Nat) (eqs:List (Addr×Addr)) (obs:List Ob),
  Gr eqs obs (ev B f O R c t K d l m i eqs obs):=by
 intro f
 induction f with
 | zero=>intros;exact Gr.z
 | succ f ih=>
  intro O R c t K d l m i eqs obs;cases t with
  | pure fin=>
   cases K with
   | nil=>
    cases fin with
    | done fl=>exact Gr.z
    | again c'=>
     rcases B with ⟨p,P,n,t,cm⟩;cases cm with
     | false=>exact Gr.z
     | true=>
      rcases O with _ | ⟨_ | _ | j,O⟩
      ·exact Gr.z
      ·show Gr eqs obs (match quietF c' with | false=>_ | true=>_);cases quietF c'
       ·exact Gr.z
       ·exact ih ..
      ·show Gr eqs obs (match quietF c' with | false=>_ | true=>_);cases quietF c'
       ·exact Gr.z
       ·show Gr eqs obs (match Nat.ble (weightF c') 150 with | true=>_ | false=>_);cases Nat.ble (weightF c') 150
        ·exact Gr.z
        ·exact ih ..
      ·exact Gr.z
   | cons fm K'=>
    cases fin with
    | done fl=>exact ih ..
    | again c'=>
     show Gr eqs obs (match quietF c' with | false=>_ | true=>_);cases quietF c'
     ·exact Gr.z
     ·rcases O with _ | ⟨_ | _ | j,O⟩
      ·exact Gr.z
      ·exact ih ..
      ·show Gr eqs obs (match Nat.ble (fm.d+weightF c') 150 with | true=>_ | false=>_);cases Nat.ble (fm.d+weightF c') 150
       ·exact Gr.z
       ·exact ih ..
      ·exact Gr.z
  | raise e=>
   cases K with
   | nil=>exact Gr.z
   | cons fm K'=>exact ih ..
  | rule _ k=>exact ih ..
  | «at» _ k=>exact ih ..
  | point _ k=>exact ih ..
  | ask k=>exact ih ..
  | fresh k=>exact ih ..
  | handled own k=>
   cases own with
   | false=>exact ih ..
   | true=>exact Gr.z
  | load a _ k=>
   rcases O with _ | ⟨_ | j,O⟩
   ·exact Gr.z
   ·show Gr eqs obs (match pget B.P a with | some o=>_ | none=>_);cases pget B.P a with
    | none=>exact Gr.z
    | some o=>exact ih ..
   ·show Gr eqs obs (match l[j]? with | some p=>_ | none=>_);cases l[j]? with
    | none=>exact Gr.z
    | some p=>exact Gr.e (ih ..)
  | update a _ g k=>
   rcases O with _ | ⟨_ | j,O⟩
   ·exact Gr.z
   ·exact Gr.z
   ·show Gr eqs obs (match l[j]? with | some p=>_ | none=>_);cases l[j]? with
    | none=>exact Gr.z
    | some p=>
     show Gr eqs obs (match (g p.2).isFreed with | false=>_ | true=>_);cases (g p.2).isFreed with
     | false=>exact Gr.e (ih ..)
     | true=>exact Gr.z
  | alloc o k=>
   show Gr eqs obs (match o.isFreed with | false=>_ | true=>_);cases o.isFreed with
   | false=>exact ih ..
   | true=>exact Gr.z
  | call c' hd _ _ k=>
   cases hd with
   | some _=>exact Gr.z
   | none=>
    rcases O with _ | ⟨_ | _ | _ | j,O⟩
    ·exact Gr.z
    ·exact ih ..
    ·show Gr eqs obs (match Nat.ble (d+weightF c') 150 with | true=>_ | false=>_);cases Nat.ble (d+weightF c') 150
     ·exact Gr.z
     ·exact ih ..
    ·show Gr eqs obs (match Nat.ble d 150 with | false=>_ | true=>_);cases Nat.ble d 150 with
     | false=>exact Gr.z
     | true=>
      cases R with
      | nil=>exact Gr.z
      | cons pr R=>
       show Gr eqs obs (match pickL l pr.rd with | none=>_ | some ps=>_);cases pickL l pr.rd with
       | none=>exact Gr.z
       | some ps=>
        rcases pr with ⟨v,di,rd,_ | ⟨j,o'⟩,al⟩
        ·show Gr eqs obs (match al.all fun o=>!o.isFreed with | false=>_ | true=>_);cases al.all fun o=>!o.isFreed with
         | false=>exact Gr.z
         | true=>exact Gr.o (ih ..)
        ·show Gr eqs obs (match l[j]? with | none=>_ | some p=>_);cases l[j]? with
         | none=>exact Gr.z
         | some p=>exact Gr.o (ih ..)
    ·exact Gr.z
  | _=>exact Gr.z

def KOk(cm:Bool)(A:Around):List Fm->Prop
 | []=>True
 | fm::K=>(ar cm A K fm.c).depth<=A.depth+fm.d/\KOk cm A K
theorem ZE{cm:Bool}{A:Around}(hh:A.handled=none):∀(K:List Fm) (c:Code),(ar cm A K c).handled=none
 | [],c=>by cases cm<;>exact hh
 | fm::K,c=>by
  show (none:Option Value).or (ar cm A K fm.c).handled=none;rw [ZE hh K fm.c];rfl
theorem ym{cm:Bool}{A:Around}{K:List Fm}{fm:Fm}{c:Code}{d:Nat}(h:(ar cm A K fm.c).depth<=A.depth+d):(ar cm A (fm::K) c).depth<=A.depth+(d+weightF c):=by
 show (ar cm A K fm.c).depth+c.weight<=_;rw [YA];omega
section
variable{cm:Bool}{prog:Program}{w:World}{B:Base}{A:Around}{Q:Fin->Shared->Prop}{E:Value->Shared->Prop}{h₀:Heap}{as:List Addr}{g:Array GenState}{dr:Drawn}{os:OsState}
def BZ(prog:Program)(w:World)(B:Base)(A:Around)(Q:Fin->Shared->Prop)(E:Value->Shared->Prop)(h₀:Heap)(as:List Addr)(g:Array GenState)(dr:Drawn)(os:OsState)(o:Out):Prop:=match o.res with
 | .fin f=>∀h,Rep B h₀ as h o.led o.m->(Rs B.cm (model prog w) A Q E []).1 f ⟨h,g,dr,B.t+o.i,os⟩
 | .err e=>∀h,Rep B h₀ as h o.led o.m->E e ⟨h,g,dr,B.t+o.i,os⟩
 | .stop c' c k K d=>∀h,Rep B h₀ as h o.led o.m->KOk B.cm A K->(ar B.cm A K c).depth<=A.depth+d->
   codeAny (model prog w) ((ar B.cm A K c).mark none) c' (fun r s'=>Goes B.cm (model prog w) A Q E K c (k r) s') ⟨h,g,dr,B.t+o.i,os⟩
 | .hold k c K d=>∀h,Rep B h₀ as h o.led o.m->KOk B.cm A K->(ar B.cm A K c).depth<=A.depth+d->Goes B.cm (model prog w) A Q E K c (.stack k) ⟨h,g,dr,B.t+o.i,os⟩
 | .bad _=>False
theorem Fl{a b:Nat}(hb:Nat.ble b 150=true)(hd:a+200<=recursionLimit):a+b<recursionLimit:=
 Nat.lt_of_lt_of_le (Nat.add_lt_add_left (Nat.lt_of_le_of_lt (Nat.le_of_ble_eq_true hb) (by decide)) _) hd
theorem Z9{K:List Fm}{c c':Code}{gd:Bool}{lv:List Value}{k:Result->Sem Fin}{s:Shared} (h:codeAny (model prog w) ((ar cm A K c).mark none) c' (fun r s'=>Goes cm (model prog w) A Q E K c (k r) s') s):Goes cm (model prog w) A Q E K c (.call c' none gd lv k) s:=
 x_call h (by intro x;cases x)
theorem qk{K:List Fm}{c':Code}{fm:Fm}{s:Shared}(h:Goes cm (model prog w) A Q E (fm::K) c' (denote table c') s): codeAny (model prog w) ((ar cm A K fm.c).mark none) c' (fun r s'=>Goes cm (model prog w) A Q E K fm.c (fm.k r) s') s:=by
 refine codeAny_of_tree (wpAny_mono h (fun fin s' hq=>?_) fun _ _ he=>he);cases fin with
 | done f=>exact hq
 | again c=>exact hq
theorem Qr{K:List Fm}{c c':Code}{d:Nat}{gd:Bool}{lv:List Value}{k:Result->Sem Fin}{s:Shared} (h:Goes cm (model prog w) A Q E (⟨c,k,d⟩::K) c' (denote table c') s):Goes cm (model prog w) A Q E K c (.call c' none gd lv k) s:=
 Z9 (qk (fm:=⟨c,k,d⟩) h)
theorem CJ{G:Out->Prop}(ge:∀o,G o->∀x∈o.eqs,x.1=x.2)(go:∀o,G o->∀b∈o.obs,b.Holds B.P (model prog w))(gp:∀o,G o->BZ prog w B A Q E h₀ as g dr os o) (hB:B.prog=prog)(hP:w.params=B.P)(hh:A.handled=none)(hd:A.depth+200<=recursionLimit)(f:Nat):
  ∀(O:List Nat) (R:List Pr) (c:Code) (t:Sem Fin) (K:List Fm) (d:Nat) (l:List (Addr×Obj)) (m i:Nat) (eqs:List (Addr×Addr)) (obs:List Ob) (h:Heap),
   Rep B h₀ as h l m->(ar B.cm A K c).depth<=A.depth+d->KOk B.cm A K->G (ev B f O R c t K d l m i eqs obs)->Goes B.cm (model prog w) A Q E K c t ⟨h,g,dr,B.t+i,os⟩:=by
 induction f with
 | zero=>exact fun _ _ _ _ _ _ _ _ _ _ _ _ _ _ _ g=>(gp _ g).elim
 | succ f ih=>
  intro O R c t K d l m i eqs obs h D hc hK;have bad:∀{n l m i e b O},G ⟨.bad n,l,m,i,e,b,O⟩->False:=fun g=>gp _ g;cases t with
  | pure fin=>
   cases K with
   | nil=>
    cases fin with
    | done fl=>exact fun g=>wpAny_pure (gp _ g h D)
    | again c'=>
     show G (match B.cm with | false=>_ | true=>_)->_;cases hcm:B.cm with
     | false=>
      intro g;have hp':=gp _ g h D;rw [hcm] at hp';exact wpAny_pure hp'
     | true=>
      have key:∀t':Sem Fin,c'.quiet=true->(wpAny (model prog w) (A.under c') t' (Rs true (model prog w) A Q E []).1 (Rs true (model prog w) A Q E []).2 ⟨h,g,dr,B.t+i,os⟩->
        wpAny (model prog w) (A.under c') (denote table c') (Rs true (model prog w) A Q E []).1 (Rs true (model prog w) A Q E []).2 ⟨h,g,dr,B.t+i,os⟩)->
        Goes B.cm (model prog w) A Q E [] c' t' ⟨h,g,dr,B.t+i,os⟩->(Rs true (model prog w) A Q E []).1 (.again c') ⟨h,g,dr,B.t+i,os⟩:=fun t' hq hx hg=>by
       rw [hcm] at hg;exact ⟨hq,codeAny_of_tree (wpAny_mono (hx hg) (fun fin s' hqq=>by cases fin<;>exact hqq) fun _ _ hee=>hee)⟩
      have hdep:(ar B.cm A [] c').depth<=A.depth+weightF c':=by
       rw [hcm];show A.depth+c'.weight<=_;rw [YA];exact Nat.le_refl _
      have nx:G ⟨.fin (.again c'),l,m,i,eqs,obs,O⟩->Goes true (model prog w) A Q E [] c (.pure (.again c')) ⟨h,g,dr,B.t+i,os⟩:=fun g=>by
       have hp':=gp _ g h D;rw [hcm] at hp';exact wpAny_pure hp'
      rcases O with _ | ⟨_ | _ | j,O⟩
      ·exact nx
      ·show G (match quietF c' with | false=>_ | true=>_)->_;cases hq:quietF c' with
       | false=>exact fun g=>(bad g).elim
       | true=>exact fun g=>wpAny_pure (key (denF c') (by rw [Xk];exact hq) (fun hx=>by rw [yk];exact hx) (ih _ R c' (denF c') [] _ l m i eqs obs h D hdep trivial g))
      ·show G (match quietF c' with | false=>_ | true=>_)->_;cases hq:quietF c' with
       | false=>exact fun g=>(bad g).elim
       | true=>
        show G (match Nat.ble (weightF c') 150 with | true=>_ | false=>_)->_;cases hb:Nat.ble (weightF c') 150 with
        | false=>exact fun g=>(bad g).elim
        | true=>
         refine fun g=>wpAny_pure (key (XQ c') (by rw [Xk];exact hq) (fun hx=>Jb ?_ hx) (ih _ R c' (XQ c') [] _ l m i eqs obs h D hdep trivial g));show A.depth+c'.weight<_;rw [YA];exact Fl hb hd
      ·exact nx
   | cons fm K'=>
    cases fin with
    | done fl=>exact fun g=>wpAny_pure (ih O R fm.c (fm.k (.ok fl)) K' fm.d l m i eqs obs h D hK.1 hK.2 g)
    | again c'=>
     show G (match quietF c' with | false=>_ | true=>_)->_;cases hq:quietF c' with
     | false=>exact fun g=>(bad g).elim
     | true=>
      have hq':c'.quiet=true:=by rw [Xk];exact hq
      rcases O with _ | ⟨_ | _ | j,O⟩
      ·exact fun g=>(bad g).elim
      ·refine fun g=>wpAny_pure (show c'.quiet=true/\_ from ⟨hq',qk (fm:=fm) ?_⟩);rw [yk];exact ih _ R c' (denF c') (fm::K') _ l m i eqs obs h D (ym hK.1) hK g
      ·show G (match Nat.ble (fm.d+weightF c') 150 with | true=>_ | false=>_)->_;cases hb:Nat.ble (fm.d+weightF c') 150 with
       | false=>exact fun g=>(bad g).elim
       | true=>
        have hx:=ym (c:=c') hK.1;exact fun g=>wpAny_pure (show c'.quiet=true/\_ from ⟨hq',qk (fm:=fm) (Jb (Nat.lt_of_le_of_lt hx (Fl hb hd)) (ih _ R c' (XQ c') (fm::K') _ l m i eqs obs h D hx hK g))⟩)
      ·exact fun g=>(bad g).elim
  | raise e=>
   cases K with
   | nil=>exact fun g=>wpAny_throw (gp _ g h D)
   | cons fm K'=>exact fun g=>wpAny_throw (ih O R fm.c (fm.k (.error e)) K' fm.d l m i eqs obs h D hK.1 hK.2 g)
  | rule tag k=>exact fun g=>x_rule (ih O R c (k ()) K d l m i eqs obs h D hc hK g)
  | «at» q k=>exact fun g=>x_at (ih O R c (k ()) K d l m i eqs obs h D hc hK g)
  | point q k=>exact fun g=>x_point (ih O R c (k ()) K d l m i eqs obs h D hc hK g)
  | ask k=>
   refine fun g=>x_ask ?_;have e:(⟨prog,w.params⟩:Setting)=⟨B.prog,B.P⟩:=by rw [hP,hB]
   rw [e];exact ih O R c (k _) K d l m i eqs obs h D hc hK g
  | fresh k=>exact fun g=>x_fresh (ih O R c (k _) K d l m (i+1) eqs obs h D hc hK g)
  | handled own k=>
   cases own with
   | true=>exact fun g=>(bad g).elim
   | false=>
    refine fun g=>x_handled ?_;rw [ZE hh];exact ih O R c (k none) K d l m i eqs obs h D hc hK g
  | load a q k=>
   rcases O with _ | ⟨_ | j,O⟩
   ·exact fun g=>(bad g).elim
   ·show G (match pget B.P a with | some o=>_ | none=>_)->_;cases hg:pget B.P a with
    | none=>exact fun g=>(bad g).elim
    | some ob=>exact fun g=>x_load (D.prog a ob hg) (ih O R c (k ob) K d l m i eqs obs h D hc hK g)
   ·show G (match l[j]? with | some p=>_ | none=>_)->_;cases hg:l[j]? with
    | none=>exact fun g=>(bad g).elim
    | some p=>
     intro g;have e':a=p.1:=ge _ g (a,p.1) ((N6 B f O R c (k p.2) K d l m i ((a,p.1)::eqs) obs).1 _ (.head _));exact x_load (by rw [e'];exact D.own p (List.mem_of_getElem? hg)) (ih O R c (k p.2) K d l m i _ obs h D hc hK g)
  | update a q u k=>
   rcases O with _ | ⟨_ | j,O⟩
   ·exact fun g=>(bad g).elim
   ·exact fun g=>(bad g).elim
   ·show G (match l[j]? with | some p=>_ | none=>_)->_;cases hg:l[j]? with
    | none=>exact fun g=>(bad g).elim
    | some p=>
     show G (match (u p.2).isFreed with | false=>_ | true=>_)->_;cases hf:(u p.2).isFreed with
     | true=>exact fun g=>(bad g).elim
     | false=>
      intro g;have e':a=p.1:=ge _ g (a,p.1) ((N6 B f O R c (k ()) K d (l.set j (p.1,u p.2)) m i ((a,p.1)::eqs) obs).1 _ (.head _));subst e';have hw:=D.own p (List.mem_of_getElem? hg);exact wpAny_bind (m:=updatePart p.1 q u) (f:=k) (wpAny_updatePart hw (ih O R c (k ()) K d _ m i _ obs _ (D.turned hg (Turned.update hw hf)) hc hK g))
  | alloc ob k=>
   show G (match ob.isFreed with | false=>_ | true=>_)->_;cases hf:ob.isFreed with
   | true=>exact fun g=>(bad g).elim
   | false=>
    refine fun g=>wpAny_bind (m:=alloc ob) (f:=k) (wpAny_alloc ?_);show Goes _ _ _ _ _ _ _ (k h.objs.size) _;rw [D.size];exact ih O R c (k _) K d _ (m+1) i eqs obs _ (D.alloc hf) hc hK g
  | call c' hd' gd lv k=>
   cases hd' with
   | some v=>exact fun g=>(bad g).elim
   | none=>
    rcases O with _ | ⟨_ | _ | _ | j,O⟩
    ·exact fun g=>(bad g).elim
    ·refine fun g=>Qr (d:=d) ?_;rw [yk];exact ih O R c' (denF c') (⟨c,k,d⟩::K) _ l m i eqs obs h D (ym hc) ⟨hc,hK⟩ g
    ·show G (match Nat.ble (d+weightF c') 150 with | true=>_ | false=>_)->_;cases hb:Nat.ble (d+weightF c') 150 with
     | false=>exact fun g=>(bad g).elim
     | true=>
      have hx:=ym (fm:=⟨c,k,d⟩) (c:=c') hc;exact fun g=>Qr (d:=d) (Jb (Nat.lt_of_le_of_lt hx (Fl hb hd)) (ih O R c' (XQ c') (⟨c,k,d⟩::K) _ l m i eqs obs h D hx ⟨hc,hK⟩ g))
    ·show G (match Nat.ble d 150 with | false=>_ | true=>_)->_;cases hbd:Nat.ble d 150 with
     | false=>exact fun g=>(bad g).elim
     | true=>
      cases R with
      | nil=>exact fun g=>(bad g).elim
      | cons pr R=>
       have hdd:((ar B.cm A K c).mark none).depth+50<=recursionLimit:=by
        show (ar B.cm A K c).depth+50<=recursionLimit;have:=Nat.le_of_ble_eq_true hbd;omega
       have hhd:((ar B.cm A K c).mark none).handled=none:=by show (none:Option Value).or (ar B.cm A K c).handled=none;rw [ZE hh];rfl
       show G (match pickL l pr.rd with | none=>_ | some ps=>_)->_;cases hrd:pickL l pr.rd with
       | none=>exact fun g=>(bad g).elim
       | some ps=>
        have hrr:∀p∈ps,h.get? p.1=some p.2:=fun p hq=>D.own p (Qc hrd p hq);rcases pr with ⟨v,di,rd,_ | ⟨j,o'⟩,al⟩
        ·show G (match al.all fun o=>!o.isFreed with | false=>_ | true=>_)->_;cases hal:al.all fun o=>!o.isFreed with
         | false=>exact fun g=>(bad g).elim
         | true=>
          intro g;have hb:=go _ g _ ((N6 B f O R c (k (.ok (.ret v))) K d _ _ (i+di) eqs ({c:=c',t:=B.t+i,n:=B.n+m,v:=v,di:=di,rd:=ps,al:=al}::obs)).2 _ (.head _));refine Z9 (hb _ _ _ hhd hdd D.toProg rfl D.size hrr ?_);show Goes _ _ _ _ _ _ _ _ ⟨FK h al,_,dr,B.t+i+di,os⟩;rw [Nat.add_assoc];exact ih O R c _ K d _ _ (i+di) eqs _ _ (Rep.allocL al D hal) hc hK g
        ·show G (match l[j]? with | none=>_ | some p=>_)->_;cases hg:l[j]? with
         | none=>exact fun g=>(bad g).elim
         | some p=>
          intro g;have hb:=go _ g _ ((N6 B f O R c (k (.ok (.ret v))) K d (l.set j (p.1,o')) m (i+di) eqs ({c:=c',t:=B.t+i,n:=B.n+m,v:=v,di:=di,rd:=ps,w:=some (p.1,p.2,o')}::obs)).2 _ (.head _));refine Z9 (hb _ _ _ hhd hdd D.toProg rfl D.size hrr (D.own p (List.mem_of_getElem? hg)) fun h' T=>?_);show Goes _ _ _ _ _ _ _ _ ⟨h',_,dr,B.t+i+di,os⟩;rw [Nat.add_assoc];exact ih O R c _ K d _ m (i+di) eqs _ h' (D.turned hg T) hc hK g
    ·exact fun g=>Z9 (gp _ g h D hK hc)
  | stack k=>exact fun g=>gp _ g h D hK hc
  | _=>exact fun g=>(bad g).elim
theorem yC(hB:B.prog=prog)(hP:w.params=B.P)(hh:A.handled=none)(hd:A.depth+200<=recursionLimit)(f:Nat)(O:List Nat)(R:List Pr)(c:Code)(t:Sem Fin)(K:List Fm)(d:Nat)(l:List (Addr×Obj))(m i:Nat)(eqs:List (Addr×Addr))(obs:List Ob)(h:Heap)
  (D:Rep B h₀ as h l m)(hc:(ar B.cm A K c).depth<=A.depth+d)(hK:KOk B.cm A K)(he:∀x∈(ev B f O R c t K d l m i eqs obs).eqs,x.1=x.2)(ho:∀b∈(ev B f O R c t K d l m i eqs obs).obs,b.Holds B.P (model prog w)) (hp:BZ prog w B A Q E h₀ as g dr os (ev B f O R c t K d l m i eqs obs)):Goes B.cm (model prog w) A Q E K c t ⟨h,g,dr,B.t+i,os⟩:=
 CJ (G:=fun o=>((∀x∈o.eqs,x.1=x.2)/\∀b∈o.obs,b.Holds B.P (model prog w))/\BZ prog w B A Q E h₀ as g dr os o) (fun _ g=>g.1.1) (fun _ g=>g.1.2) (fun _ g=>g.2) hB hP hh hd f O R c t K d l m i eqs obs h D hc hK ⟨⟨he,ho⟩,hp⟩
end

def Res.call?:Res->Option Code
 | .stop c' _ _ _ _=>some c'
 | _=>none
def Res.fin?:Res->Option Fin
 | .fin f=>some f
 | _=>none
def Res.c:Res->Code
 | .stop _ c _ _ _=>c
 | .hold _ c _ _=>c
 | _=>.call .none {}
def Res.k:Res->Result->Sem Fin
 | .stop _ _ k _ _=>k
 | _=>fun _=>.unsupported "no stop"
def Res.K:Res->List Fm
 | .stop _ _ _ K _=>K
 | .hold _ _ K _=>K
 | _=>[]
def Res.d:Res->Nat
 | .stop _ _ _ _ d=>d
 | .hold _ _ _ d=>d
 | _=>0
def Res.hk:Res->List (Code×Pos)->Sem Fin
 | .hold k _ _ _=>k
 | _=>fun _=>.unsupported "no hold"
def Res.isHold:Res->Bool
 | .hold _ _ _ _=>true
 | _=>false
theorem Res.of_hold{r:Res}(h:r.isHold=true):r=.hold r.hk r.c r.K r.d:=by
 cases r with
 | hold a b c d=>rfl
 | _=>cases h
noncomputable def Res.code:Res->Code
 | .fin (.again c)=>c
 | .stop c _ _ _ _=>c
 | _=>.call .none {}
theorem Res.of_call{r:Res}{c':Code}(h:r.call? =some c'):r=.stop c' r.c r.k r.K r.d:=by
 cases r with
 | stop a b c d e=>cases h;rfl
 | _=>cases h
theorem Res.of_fin{r:Res}{f:Fin}(h:r.fin? =some f):r=.fin f:=by
 cases r with
 | fin a=>cases h;rfl
 | _=>cases h
structure Checks (P:Params) (M:Model) (o:Out):Prop where
 eqs:∀x∈o.eqs,x.1=x.2
 obs:∀b∈o.obs,b.Holds P M
theorem El{l:List (Addr×Addr)}(h:l.map Prod.fst=l.map Prod.snd):∀x∈l,x.1=x.2:=by
 induction l with
 | nil=>intro x hx;cases hx
 | cons p r ih=>
  rw [List.map_cons,List.map_cons] at h;injection h with h1 h2
  intro x hx;rcases List.mem_cons.mp hx with rfl | hx
  ·exact h1
  ·exact ih h2 x hx
theorem Checks.of{P:Params}{M:Model}{o:Out}{L:List Ob}(he:o.eqs.map Prod.fst=o.eqs.map Prod.snd)(hL:o.obs=L)(h:∀b∈L,b.Holds P M):Checks P M o:=⟨El he,by rw [hL];exact h⟩
structure Has (h:Heap) (l:List (Addr×Obj)):Prop where
 own:∀p∈l,h.get? p.1=some p.2
 nodup:(l.map (·.1)).Nodup
 apart:∀p∈l,265<=p.1\/p.1=239
structure Ext (as:List Addr) (h h':Heap):Prop where
 size:h.objs.size<=h'.objs.size
 keep:∀b o,h.get? b=some o->b∉as->h'.get? b=some o
theorem Ext.refl(as:List Addr)(h:Heap):Ext as h h:=⟨Nat.le_refl _,fun _ _ e _=>e⟩
theorem Ext.trans{as as':List Addr}{h h' h'':Heap}(x:Ext as h h')(y:Ext as' h' h'')(ha:∀a∈as',a∈as\/h.objs.size<=a):Ext as h h'':=
 ⟨Nat.le_trans x.size y.size,fun b o e hb=>y.keep b o (x.keep b o e hb) fun hm=>(ha b hm).elim hb fun hl=>absurd (Heap.lt_size e) (Nat.not_lt.mpr hl)⟩
theorem Prog.ext{P:Params}{as:List Addr}{h h':Heap}(p:Prog P h)(x:Ext as h h')(ha:∀a∈as,265<=a\/a=239):Prog P h':=
 ⟨fun a o e=>x.keep a o (p.prog a o e) fun hm=>(by rw [qh (ha a hm)] at e;cases e),Nat.le_trans p.low x.size⟩
theorem Rep.start{prog:Program}{P:Params}{t:Nat}{cm:Bool}{h:Heap}{l:List (Addr×Obj)}(p:Prog P h)(H:Has h l):Rep ⟨prog,P,h.objs.size,t,cm⟩ h (l.map (·.1)) h l 0:=
 ⟨rfl,p.prog,H.own,H.nodup,fun q hq=>.inl (List.mem_map_of_mem hq),H.apart,fun _ _ e _=>e,rfl,p.low⟩
section
variable{B:Base}{h₀ h:Heap}{as:List Addr}{l:List (Addr×Obj)}{m:Nat}
theorem Rep.has(D:Rep B h₀ as h l m):Has h l:=⟨D.own,D.nodup,D.apart⟩
theorem Rep.ext(D:Rep B h₀ as h l m):Ext as h₀ h:=⟨by rw [D.old,D.size];exact Nat.le_add_right _ _,D.keep⟩
end
theorem Has.pick{h:Heap}{l l':List (Addr×Obj)}(H:Has h l)(ix:List Nat)(e:l'=ix.filterMap (l[·]?))(hn:ix.Nodup:=by decide):Has h l':=by
 subst e;refine ⟨fun p hp=>?_,?_,fun p hp=>?_⟩
 ·obtain ⟨i,_,hi⟩:=List.mem_filterMap.mp hp;exact H.own p (List.mem_of_getElem? hi)
 ·rw [List.map_filterMap];refine List.Pairwise.filterMap _ (fun i j hij a ha b hb e=>?_) hn;simp only [Option.map_eq_some_iff] at ha hb;obtain ⟨p,hp,rfl⟩:=ha;obtain ⟨q,hq,rfl⟩:=hb;apply hij;have h1:=List.getElem?_map (f:=fun x:Addr×Obj=>x.1) (l:=l) (i:=i);have h2:=List.getElem?_map (f:=fun x:Addr×Obj=>x.1) (l:=l) (i:=j);rw [hp] at h1;rw [hq] at h2;obtain ⟨l1,e1⟩:=List.getElem?_eq_some_iff.mp h1;obtain ⟨l2,e2⟩:=List.getElem?_eq_some_iff.mp h2;exact (List.getElem_inj H.nodup).mp (by rw [e1,e2];exact e)
 ·obtain ⟨i,_,hi⟩:=List.mem_filterMap.mp hp;exact H.apart p (List.mem_of_getElem? hi)
section
variable{prog:Program}{w:World}{B:Base}{A:Around}{Q:Fin->Shared->Prop}{E:Value->Shared->Prop}{h₀ h:Heap}{as:List Addr}{g:Array GenState}{dr:Drawn}{os:OsState}
 {f:Nat}{O:List Nat}{R:List Pr}{c:Code}{t:Sem Fin}{K:List Fm}{d:Nat}{l:List (Addr×Obj)}
theorem F3(hB:B.prog=prog)(hP:w.params=B.P)(hh:A.handled=none)(hd:A.depth+200<=recursionLimit)(D:Rep B h₀ as h l 0)(hdep:(ar B.cm A K c).depth<=A.depth+d)(hK:KOk B.cm A K)
  (ck:Checks B.P (model prog w) (ev B f O R c t K d l 0 0 [] [])){fin:Fin}(hf:(ev B f O R c t K d l 0 0 [] []).res.fin? =some fin) (H:∀h',Rep B h₀ as h' (ev B f O R c t K d l 0 0 [] []).led (ev B f O R c t K d l 0 0 [] []).m->(Rs B.cm (model prog w) A Q E []).1 fin ⟨h',g,dr,B.t+(ev B f O R c t K d l 0 0 [] []).i,os⟩):
  Goes B.cm (model prog w) A Q E K c t ⟨h,g,dr,B.t,os⟩:=by
 refine yC hB hP hh hd f O R c t K d l 0 0 [] [] h D hdep hK ck.eqs ck.obs ?_;unfold BZ;rw [Res.of_fin hf];exact H
theorem Bu(hB:B.prog=prog)(hP:w.params=B.P)(hh:A.handled=none)(hd:A.depth+200<=recursionLimit)(D:Rep B h₀ as h l 0)(hdep:(ar B.cm A K c).depth<=A.depth+d)(hK:KOk B.cm A K)
  (ck:Checks B.P (model prog w) (ev B f O R c t K d l 0 0 [] [])){c':Code}(hf:(ev B f O R c t K d l 0 0 [] []).res.call? =some c') (H:∀h',Rep B h₀ as h' (ev B f O R c t K d l 0 0 [] []).led (ev B f O R c t K d l 0 0 [] []).m->KOk B.cm A (ev B f O R c t K d l 0 0 [] []).res.K->
   (ar B.cm A (ev B f O R c t K d l 0 0 [] []).res.K (ev B f O R c t K d l 0 0 [] []).res.c).depth<=A.depth+(ev B f O R c t K d l 0 0 [] []).res.d-> codeAny (model prog w) ((ar B.cm A (ev B f O R c t K d l 0 0 [] []).res.K (ev B f O R c t K d l 0 0 [] []).res.c).mark none) c'
    (fun r s'=>Goes B.cm (model prog w) A Q E (ev B f O R c t K d l 0 0 [] []).res.K (ev B f O R c t K d l 0 0 [] []).res.c ((ev B f O R c t K d l 0 0 [] []).res.k r) s') ⟨h',g,dr,B.t+(ev B f O R c t K d l 0 0 [] []).i,os⟩):
  Goes B.cm (model prog w) A Q E K c t ⟨h,g,dr,B.t,os⟩:=by
 refine yC hB hP hh hd f O R c t K d l 0 0 [] [] h D hdep hK ck.eqs ck.obs ?_;generalize ev B f O R c t K d l 0 0 [] []=o at hf H ⊢;unfold BZ;have e:=Res.of_call hf;generalize ho:o.res=r at e H ⊢;rw [e];intro h' D' k1 k2;exact H h' D' k1 k2
theorem ML{cm:Bool}{k:List (Code×Pos)->Sem Fin}{s:Shared}(h:∀S,unitsOf S<=(ar cm A K c).units->Goes cm (model prog w) A Q E K c (k S) s):Goes cm (model prog w) A Q E K c (.stack k) s:=
 fun Γ p hΓ=>h ((Γ.code,p)::Γ.below) hΓ.2.2.2.2 Γ p hΓ
theorem Bv(hB:B.prog=prog)(hP:w.params=B.P)(hh:A.handled=none)(hd:A.depth+200<=recursionLimit)(D:Rep B h₀ as h l 0)(hdep:(ar B.cm A K c).depth<=A.depth+d)(hK:KOk B.cm A K)
  (ck:Checks B.P (model prog w) (ev B f O R c t K d l 0 0 [] []))(hf:(ev B f O R c t K d l 0 0 [] []).res.isHold=true) (H:∀h',Rep B h₀ as h' (ev B f O R c t K d l 0 0 [] []).led (ev B f O R c t K d l 0 0 [] []).m->KOk B.cm A (ev B f O R c t K d l 0 0 [] []).res.K->
   (ar B.cm A (ev B f O R c t K d l 0 0 [] []).res.K (ev B f O R c t K d l 0 0 [] []).res.c).depth<=A.depth+(ev B f O R c t K d l 0 0 [] []).res.d->
   ∀S,unitsOf S<=(ar B.cm A (ev B f O R c t K d l 0 0 [] []).res.K (ev B f O R c t K d l 0 0 [] []).res.c).units->Goes B.cm (model prog w) A Q E (ev B f O R c t K d l 0 0 [] []).res.K (ev B f O R c t K d l 0 0 [] []).res.c ((ev B f O R c t K d l 0 0 [] []).res.hk S) ⟨h',g,dr,B.t+(ev B f O R c t K d l 0 0 [] []).i,os⟩):
  Goes B.cm (model prog w) A Q E K c t ⟨h,g,dr,B.t,os⟩:=by
 refine yC hB hP hh hd f O R c t K d l 0 0 [] [] h D hdep hK ck.eqs ck.obs ?_;generalize ev B f O R c t K d l 0 0 [] []=o at hf H ⊢;unfold BZ;have e:=Res.of_hold hf;generalize ho:o.res=r at e H ⊢;rw [e];intro h' D' k1 k2;exact ML fun S hS=>H h' D' k1 k2 S hS
end
def qOf(R:Result->Shared->Prop):Fin->Shared->Prop
 | .done f,s=>R (.ok f) s
 | .again _,_=>False
def eOf(R:Result->Shared->Prop):Value->Shared->Prop:=fun e s=>R (.error e) s
theorem Xt(R:Result->Shared->Prop):asR (qOf R) (eOf R)=R:=by
 funext r s
 cases r<;>rfl
section
variable{prog:Program}{w:World}{A:Around}{R:Result->Shared->Prop}{c:Code}{s:Shared}
theorem Xi(h:Goes true (model prog w) A (qOf R) (eOf R) [] c (denF c) s):codeAny (model prog w) A c R s:=by
 rw [←yk] at h;refine codeAny_of_tree (wpAny_mono h (fun fin s' hq=>?_) fun _ _ he=>he);cases fin with
 | done f=>exact hq
 | again c'=>
  have hq':c'.quiet=true/\codeAny (model prog w) A c' (asR (qOf R) (eOf R)) s':=hq;rw [Xt] at hq';exact hq'
theorem XG(hd:A.depth+200<=recursionLimit)(hw:c.weight<=150)(h:Goes true (model prog w) A (qOf R) (eOf R) [] c (XQ c) s):codeAny (model prog w) A c R s:=by
 have h':wpAny (model prog w) (A.under c) (denote table c) (Rs true (model prog w) A (qOf R) (eOf R) []).1 (Rs true (model prog w) A (qOf R) (eOf R) []).2 s:=by
  refine Jb ?_ h;show A.depth+c.weight<_;lia
 refine codeAny_of_tree (wpAny_mono h' (fun fin s' hq=>?_) fun _ _ he=>he);cases fin with
 | done f=>exact hq
 | again c'=>
  have hq':c'.quiet=true/\codeAny (model prog w) A c' (asR (qOf R) (eOf R)) s':=hq;rw [Xt] at hq';exact hq'
end
noncomputable def Pf(P:Params)(b1 b2:Bool):Params:={P with followText:=fun r=>match PySem.W.S.strDecS r "special-get-raises" with
 | .isTrue _=>b1
 | .isFalse _=>match PySem.W.S.strDecS r "comprehension-iter-twice" with
  | .isTrue _=>b2
  | .isFalse _=>P.followText r}
theorem LT(P:Params):Pf P (P.followText "special-get-raises") (P.followText "comprehension-iter-twice")=P:=by
 have h:(fun r=>match PySem.W.S.strDecS r "special-get-raises" with
   | .isTrue _=>P.followText "special-get-raises"
   | .isFalse _=>match PySem.W.S.strDecS r "comprehension-iter-twice" with
    | .isTrue _=>P.followText "comprehension-iter-twice"
    | .isFalse _=>P.followText r)=P.followText:=by
  funext r
  split
  ·rename_i e _;rw [e]
  ·split
   ·rename_i e _;rw [e]
   ·rfl
 unfold Pf;rw [h]

abbrev pw:Program:=PySem.Challenge.pw_pu0043_01
noncomputable abbrev Tf:Value:=.type PySem.W.SL.s9222952809800978799x4
noncomputable abbrev Sv:Value:=.type PySem.W.SL.s14018661285674007319x4
noncomputable abbrev DV:Value:=.type PySem.W.SL.s658472552662922059x5
noncomputable abbrev DU:Value:=.type PySem.W.SL.s2766695959194262286x5
noncomputable abbrev QV:Value:=.type PySem.W.SL.s3492446563574874994x13
noncomputable abbrev FC:Value:=.type PySem.W.SL.s15992201931430999065x14
noncomputable abbrev Sw:Value:=.type PySem.W.SL.s15660640913423913556x4
noncomputable abbrev listO(vs:List Value)(e:Nat):Obj:={cls:=Tf,data:=.seq ⟨vs⟩ e}
noncomputable abbrev YO(vs:List Value):Obj:={cls:=DU,data:=.seq ⟨vs⟩}
noncomputable abbrev frameO(es:List DictEntry)(e:Nat):Obj:={cls:=DV,data:=.dict ⟨es⟩ e}
def Res.callee:Res->Code
 | .stop c' _ _ _ _=>c'
 | _=>.call .none {}
noncomputable abbrev hsh(P:Params)(nm:List Nat):Int:=if (⟨⟨nm⟩⟩:Str).cps.isEmpty=true then 0 else reduceHash (P.strHash (⟨⟨nm⟩⟩:Str).cps)
noncomputable abbrev en(P:Params)(nm:List Nat)(k:Nat)(v:Value):DictEntry:=⟨hsh P nm,.str ⟨⟨nm⟩⟩ k,v⟩
noncomputable abbrev GY(k:Int):Obj:={cls:=QV,data:=.fields ⟨[.none,.int k 0]⟩}
theorem lt3{q:Nat}(h:q<3):q=0\/q=1\/q=2:=by omega
theorem aL{α:Type}{p:α->Prop}{x:α}{l:List α}(h:p x)(t:∀a∈l,p a):∀a∈x::l,p a:=List.forall_mem_cons.mpr ⟨h,t⟩
theorem aN{α:Type}{p:α->Prop}:∀a∈([]:List α),p a:=fun _ h=>(nomatch h)
noncomputable abbrev bS(b1 b2:Bool)(P:Params)(n t:Nat):Base:=⟨pw,Pf P b1 b2,n,t,true⟩
abbrev Xp:=Addr×Obj
abbrev ZQ:=List (Addr×Obj)
abbrev VI(x:Int)(t:Nat):Value:=.int x t
abbrev VR(x:Addr):Value:=.ref x
abbrev VS(x:Str)(t:Nat):Value:=.str x t
noncomputable abbrev oB(id:String)(as:List Value)(t n:Nat)(v:Value)(di:Nat:=0)(rd:List (Addr×Obj):=[])(w:Option (Addr×Obj×Obj):=none)(al:List Obj:=[]):Ob:={c:=.call (.builtin id) ⟨as,[]⟩,t:=t,n:=n,v:=v,di:=di,rd:=rd,w:=w,al:=al}
noncomputable def dO(k:Nat):Nat->List Nat:=Nat.rec (fun _=>[]) (fun _ ih n=>(n % 128)::ih (n / 128)) k
noncomputable def oC(l:List (List Nat)):List Nat:=List.rec [] (fun a _ ih=>a++ih) l
noncomputable def Aw:List Nat:=dO 200 0x14040800200081022808100040010204501020008002040090024489020408b02040010004001002800a140418306001000000100040000200000000404080002800002000010204080000408102000000200000000400100000000000000000000000000000000000000000000000000000000001830602183060c003000c002850a00280060c1850a142800a002800810200080010204102040800200080018306001800204083060c1800600180
noncomputable def Av:List Nat:=dO 200 0x404000000008102000800000001000000002040810204000020050c1600000002c000002c000002c50a142850102047010200080020408e020400100040811c040800200081003400d1a343060c403060018006000410100000000204080020000000040000000081020408100000800c203800000007000000700000070c0410100000000204080020000000040000000081020408100000800a1c3000000006000000600000060a142850a04081
noncomputable def Au:List Nat:=dO 200 0x40010000410100000000204080020000000040000000081020408100000802048880000001100000110000011200410100000000204080020000000040000000081020408100000801e448000000010000001000000101e3c78f1e0408124040800200081024808100040010204901020008002040110044891162c595162c00b002c0010404000000008102000800000001000000002040810204000020058d1800000003000000300000030581
noncomputable def Y0:List Nat:=dO 26 0x381081800600183060214081060c183060c1800600180
noncomputable def At:List Nat:=dO 140 0x408100040000000080000000102040810200001002c70d00000001a000001a000001a2c0820200000000408100040000000080000000102040810200001002868c000000018000001800000182858b162c68018300000030000000060a042c58c002c5800000580000000b100c183020c188060c003000c002
noncomputable def KY:List Nat:=dO 60 0x600180060010204001001800600183060502040830628183000c0030008102000800b002c00b162c2810204183140c1800600180
noncomputable def yi:List Nat:=dO 34 0x20600180060c18085041c007001c3870210081060c183060c1800600180
noncomputable def GX:List Nat:=dO 45 0x50204087020400100040810e040800200081021c08100040010204381020008002040060018306
noncomputable def As:List Nat:=dO 100 0x400500142870018300000030000000060608101040400000000810200080000000100000000204081020400002001010c14000000028000002800000282000008104080000200000000c003020400002040810204000
noncomputable def oq9:List Nat:=dO 140 0x1c0408002000810238081000400102006801a346891224509120048012001020e1c3870e04081140408002000810228081000400102045010200080020400900244890c183070c1800600180020410204081008102180810004001020430102000800204086020400100040800a002850a0c183080c1800600180
noncomputable def Bf:List Nat:=dO 80 0xa081091224285041c3870a141070e1428000083870e142850a142850a040811004080020008102200810004001020440102000800204088020400100040800e003870e04101
noncomputable def Be:List Nat:=dO 60 0x50000005081020208001010204104060c10204081020400100040018304001010204102060c102040810204080000408102
noncomputable def Jc:List Nat:=dO 26 0x70e1800002042040810204080020008001830600180
noncomputable def YV:List Nat:=dO 20 0x1c3870210081060c183060c1800600180
noncomputable def D5:List Nat:=dO 100 0x2003800e1c38102042010200080020008006001830a00204000000400000000808102020808000000010204001000000002000000004081020408000040020210180000000300000030000003020000102040810200000
noncomputable def Bd:List Nat:=dO 45 0xc10303060c0830628183000c0030008102000800b002c00b162c2810204183140c1800600180
noncomputable def Bc:List Nat:=dO 45 0x308182000c003040c0c183020c18a060c003000c0020408002003400d003468d0a04081060c503
noncomputable def FP:List Nat:=dO 26 0x18006001800408100040000214285020e003800e1c381
noncomputable def FO:List Nat:=dO 26 0x800c00306040810408142040010004000c183000c001
noncomputable def FN:List Nat:=dO 26 0x4000200081060c303060018006001020400100
noncomputable def HT:List Nat:=dO 45 0x50204088020400100040811004080020008102200810004001020440102000800204007001c387
noncomputable def HR:List Nat:=dO 45 0xd02040830620183000c00300081020008001041410c003000c1830081020c188060c003000c002
noncomputable def D4:List Nat:=dO 60 0xa1020404100020204082080c18102040810204001000400102040800200081020008002040000000000020400002040810204000
noncomputable def HQ:List Nat:=dO 34 0x180060c001001c0070e1800002042040810204080020008002000800204
noncomputable def HP:List Nat:=dO 34 0x60c183008c183460c003000c000810a142850a020408e02040010004081
noncomputable def HO:List Nat:=dO 34 0x40700001830c183060c183000c003000a142800a0010102040810204081
noncomputable def Cl:List Nat:=dO 80 0x230081000400102046010200080020408c02040010004080160058b16102040e10200080020004181060c183060204088020400100040811004080020008102200810004001
noncomputable def Ck:List Nat:=dO 80 0xc183010c183860c003000c002850a00280040c103060c2850c142800a00280081020008001020408102081028408002000800183060018004041010204183080c1800600180
abbrev kn0(P:Params):=en P [95,104,101,97,100,101,114,115]
abbrev kn1(P:Params):=en P [100,101,101,100,115]
abbrev kn2(P:Params):=en P [99,117,116]
abbrev Ay(P:Params):=en P [107,101,112,116]
abbrev Qo(P:Params):=en P [99,111,117,110,116,115]
abbrev kn5(P:Params):=en P [105]
abbrev kn6(P:Params):=en P [106]
abbrev kn7(P:Params):=en P [109]
abbrev YS(P:Params):=en P [112]
abbrev kn9(P:Params):=en P [113]
abbrev JO(P:Params):=en P [97]
abbrev kn11(P:Params):=en P [120]
abbrev JN(P:Params):=en P [108,111]
abbrev JM(P:Params):=en P [104,105]
abbrev JL(P:Params):=en P [107,101,121]
abbrev kn15(P:Params):=en P [109,105,100]
abbrev Zq(P:Params):=en P [116,111,116,97,108]
abbrev Je(P:Params):=en P [104,101,97,100,115]
abbrev Jd(P:Params):=en P [109,97,105,108,115]
abbrev qi(P:Params):=en P [116]
abbrev XY(P:Params):=en P [109,97,105,108]
abbrev kn21(P:Params):=en P [114,111,119]
abbrev FV(P:Params):=en P [110,117,109,98,101,114,115]
abbrev XR(P:Params):=en P [104,101,97,100]
abbrev XW(P:Params):=en P [110,97,109,101]
abbrev MA(P:Params):=en P [109,97,110,121]
abbrev kn26(P:Params):=en P [115,99,114,105,112,116]
abbrev kn27(P:Params):=en P [99,108,111,99,107,115]
abbrev kn28(P:Params):=en P [115,105,122,101,115]
abbrev kn29(P:Params):=en P [121]
abbrev kn30(P:Params):=en P [122]
abbrev Yk(P:Params):=en P [116,117,114,110]
abbrev Yj(P:Params):=en P [116,101,120,116]
abbrev Yi(P:Params):=en P [107]
abbrev YL(P:Params):=en P [100,111,116,115]
abbrev Ef(P:Params):=en P [100,97,116,97]
abbrev yZ(P:Params):=en P [116,97,107,101,110]
abbrev Ee(P:Params):=en P [99,108,111,99,107]
theorem lar{a b:Nat}:a<=a+b:=Nat.le_add_right _ _

theorem Ye:Tf=.type "list":=congrArg Value.type PySem.W.SL.e9222952809800978799x4.symm
theorem G8:QV=.type "list_iterator":=congrArg Value.type PySem.W.SL.e3492446563574874994x13.symm
section
variable{prog:Program}{w:World}{A:Around}{R:Result->Shared->Prop}{s:Shared}
theorem Yt{T:String}{name:Str}{id:String}{b:Builtin}{self:Value}{rest:List Value}(slot:Slot T name id)(hT:s.TypeIs self T)(entry:entryFor table id=some b)(ha:argsOk id ⟨self::rest,[]⟩) (h:wpAny (model prog w) A.in1 (b ⟨self::rest,[]⟩) (fun fin s'=>∃v,fin=.done (.ret v)/\R (.ok (.ret v)) s') (fun e s'=>R (.error e) s') s): codeAny (model prog w) A (.call (.builtin id) ⟨self::rest,[]⟩) R s:=by
 refine codeAny_call_builtin slot.plain entry (slot.check _ _ _ _ _ _ _ _ hT ha (wpAny_mono h (fun fin s' hx=>?_) fun _ _ h'=>h'));obtain ⟨v,rfl,hr⟩:=hx;exact hr
theorem YD{T:String}{name:Str}{id:String}{b:Builtin}{self:Value}{rest:List Value}{v:Value}(slot:Slot T name id)(hT:s.TypeIs self T)(entry:entryFor table id=some b)(ha:argsOk id ⟨self::rest,[]⟩)
  (g:Gives (b ⟨self::rest,[]⟩) (.val v))(h:R (.ok (.ret v)) s):codeAny (model prog w) A (.call (.builtin id) ⟨self::rest,[]⟩) R s:=codeAny_call_builtin slot.plain entry (slot.check _ _ _ _ _ _ _ _ hT ha (g prog w A R s h))
end
section
variable{P:Params}{prog:Program}{w:World}{a b:Int}{ta tb t n:Nat}{r:Bool}
theorem Yg{s:Shared}{t:Nat}(h:s.toks=t):({s with heap:=FK s.heap [],toks:=t+0}:Shared)=s:=by
 subst h;rfl
theorem ZK(h:decide (a<=b)=r):Ob.Holds P (model prog w) (oB "int.__le__" [.int a ta,.int b tb] t n (.bool r)):=by
 intro A R s _ _ _ ht _ _ hR;rw [Yg ht,←h] at hR;exact YD F.slot_int_le (typeIs_int s a ta) F.entry_int_le (F.args_int_le_2 _ _) (gives_int_le a b ta tb) hR
theorem Ty(h:decide (a<b)=r):Ob.Holds P (model prog w) (oB "int.__lt__" [.int a ta,.int b tb] t n (.bool r)):=by
 intro A R s _ _ _ ht _ _ hR;rw [Yg ht,←h] at hR;exact YD F.slot_int_lt (typeIs_int s a ta) F.entry_int_lt (F.args_int_lt_2 _ _) (gives_int_lt a b ta tb) hR
theorem XE(h:decide (a>b)=r):Ob.Holds P (model prog w) (oB "int.__gt__" [.int a ta,.int b tb] t n (.bool r)):=by
 intro A R s _ _ _ ht _ _ hR;rw [Yg ht,←h] at hR;exact YD F.slot_int_gt (typeIs_int s a ta) F.entry_int_gt (F.args_int_gt_2 _ _) (gives_int_gt a b ta tb) hR
theorem yY(h:(a==b)=r):Ob.Holds P (model prog w) (oB "int.__eq__" [.int a ta,.int b tb] t n (.bool r)):=by
 intro A R s _ _ _ ht _ _ hR;rw [Yg ht,←h] at hR;exact YD F.slot_int_eq (typeIs_int s a ta) F.entry_int_eq (F.args_int_eq_2 _ _) (gives_int_eq a b ta tb) hR
theorem HX(h:(a != b)=r):Ob.Holds P (model prog w) (oB "int.__ne__" [.int a ta,.int b tb] t n (.bool r)):=by
 intro A R s _ _ _ ht _ _ hR;rw [Yg ht,←h] at hR;exact YD F.slot_int_ne (typeIs_int s a ta) F.entry_int_ne (F.args_int_ne_2 _ _) (gives_int_ne a b ta tb) hR
theorem XM{s:Shared}{l:Addr}{vs:List Value}{e:Nat}(h:s.heap.get? l=some (listO vs e)):s.heap.IsList l vs.toArray:=
 ⟨_,h,Ye,e,rfl⟩
theorem Xj{l:Addr}{vs:List Value}{e:Nat}{k:Int}{tk:Nat}{v:Value}(h0:0<=k)(hk:k<2 ^ 63)(hx:vs[k.toNat]? =some v):
  Ob.Holds P (model prog w) (oB "list.__getitem__" [.ref l,.int k tk] t n v (rd:=[(l,listO vs e)])):=by
 intro A R s _ _ _ ht _ hr hR;rw [Yg ht] at hR;have ho:=hr (l,listO vs e) (.head _);have hl:=XM ho;refine Yt F.slot_list_getitem hl.typeIs F.entry_list_getitem (F.args_list_getitem_2 _ _) ?_;show wpAny _ _ (Builtin.List.listSubscript? (.int k tk) >>= _) _ _ s;refine wpAny_bind (wpAny_listSubscript_int (fitsIndex_of h0 hk) ?_);clear hk;obtain ⟨j,rfl⟩:=Int.eq_ofNat_of_zero_le h0;have hx':vs.toArray[j]? =some v:=by simpa using hx
 show wpAny _ _ ((seqItemAt l j >>= fun r=>pure (r.map (j, ·))) >>= _) _ _ s;refine wpAny_bind (wpAny_bind (wpAny_seqItemAt ho rfl (wpAny_pure ?_)));rw [hx']
 first
  | exact wpAny_bind (wpAny_pure (wpAny_pure ⟨v,rfl,hR⟩))
  | exact wpAny_pure ⟨v,rfl,hR⟩
theorem X0{l:Addr}{vs:List Value}{e:Nat}{k:Int}{tk:Nat}{v:Value}(h0:0<=k)(hk:k<2 ^ 63)(hn:k.toNat<vs.length):
  Ob.Holds P (model prog w) (oB "list.__setitem__" [.ref l,.int k tk,v] t n .none (w:=some (l,listO vs e,listO (vs.set k.toNat v) e))):=by
 intro A R s _ _ _ ht _ _ ho hR;have hl:=XM ho;refine Yt F.slot_list_setitem hl.typeIs F.entry_list_setitem (F.args_list_setitem_3 _ _ _) ?_;show wpAny _ _ (Builtin.List.listSubscript? (.int k tk) >>= _) _ _ s;refine wpAny_bind (wpAny_listSubscript_int (fitsIndex_of h0 hk) ?_);clear hk;obtain ⟨j,rfl⟩:=Int.eq_ofNat_of_zero_le h0;have hj:j<vs.length:=hn;have hx':vs.toArray[j]? =some vs[j]:=by simp [hj]
 show wpAny _ _ ((seqItemAt l j >>= fun r=>pure (r.map (j, ·))) >>= _) _ _ s;refine wpAny_bind (wpAny_bind (wpAny_seqItemAt ho rfl (wpAny_pure ?_)));rw [hx'];show wpAny _ _ (setSeqItemAt l j v >>= _) _ _ s;have key:R (.ok (.ret .none)) {s with heap:=s.heap.update l (Obj.mapSeq (·.setIfInBounds j v))}:=by
  have T:=Turned.update (h:=s.heap) (f:=Obj.mapSeq (·.setIfInBounds j v)) ho rfl;have e1:Obj.mapSeq (·.setIfInBounds j v) (listO vs e)=listO (vs.set j v) e:=by
   unfold Obj.mapSeq listO;simp
  rw [e1] at T;have:=hR _ T;rw [←ht] at this;exact this
 refine wpAny_bind (wpAny_setSeqItemAt ho rfl ?_)
 first
  | exact wpAny_bind (wpAny_pure (wpAny_pure ⟨.none,rfl,key⟩))
  | exact wpAny_pure ⟨.none,rfl,key⟩
noncomputable abbrev itO(l:Addr)(k:Int):Obj:={cls:=QV,data:=.fields ⟨[.ref l,.int k 0]⟩}
theorem Ya{it l:Addr}{vs:List Value}{e k:Nat}{v:Value}(hx:vs[k]? =some v):
  Ob.Holds P (model prog w) (oB "list_iterator.__next__" [.ref it] t n v (rd:=[(l,listO vs e)]) (w:=some (it,itO l (k:Int),itO l ((k:Int)+1)))):=by
 intro A R s _ _ _ ht _ hr ho hR;have hol:=hr (l,listO vs e) (.head _);have hT:s.TypeIs (.ref it) "list_iterator":=⟨_,ho,G8⟩;refine Yt slot_listiter_next hT entry_listiter_next (args_listiter_next _) ?_;show wpAny _ _ (field (.ref it) 0 >>= _) _ _ s;refine wpAny_bind (wpAny_field ho rfl (x:=.ref l) rfl ?_);show wpAny _ _ (if (Value.ref l==Value.none)=true then _ else _) _ _ s;rw [if_neg (show¬((Value.ref l==Value.none)=true) from Bool.false_ne_true)];show wpAny _ _ (field (.ref it) 1 >>= _) _ _ s;refine wpAny_bind (wpAny_field ho rfl (x:=.int k 0) rfl ?_);show wpAny _ _ (seqItems? (.ref l) >>= _) _ _ s;refine wpAny_bind (wpAny_seqItems hol rfl ?_);have hx':(⟨vs⟩:Array Value)[k]? =some v:=by simpa using hx
 simp only [Int.toNat_natCast,hx'];refine wpAny_bind (wpAny_setField ho rfl (by simp) (wpAny_pure ⟨v,rfl,?_⟩));have T:=Turned.update (h:=s.heap) (f:=Obj.mapFields (·.setIfInBounds 1 (rawInt ((k:Int)+1)))) ho rfl;have:=hR _ T;rw [←ht] at this;exact this
end

inductive View
 | stop
 | flow (f:Flow)
 | again
 | hold
 | other
noncomputable def Res.view:Res->View
 | .stop _ _ _ _ _=>.stop
 | .fin (.done f)=>.flow f
 | .fin (.again _)=>.again
 | .hold _ _ _ _=>.hold
 | _=>.other
structure Seg (o:Out) (v:View) (cd:Code) (m i:Nat) (obs:List Ob) (ix:List Nat) (cells:List (Addr×Obj)):Prop where
 eqs:o.eqs.map Prod.fst=o.eqs.map Prod.snd
 view:o.res.view=v
 code:o.res.code=cd
 m:o.m=m
 i:o.i=i
 obs:o.obs=obs
 d:Nat.ble o.res.d 20=true
 kl:Nat.ble o.res.K.length 30=true
 pick:ix.filterMap (o.led[·]?)=cells
theorem Seg.of{o:Out}{v:View}{cd:Code}{m i:Nat}{obs:List Ob}{ix:List Nat}{cells:List (Addr×Obj)} (h:(o.eqs.map Prod.fst,o.res.view,o.res.code,o.m,o.i,o.obs,Nat.ble o.res.d 20&&Nat.ble o.res.K.length 30,ix.filterMap (o.led[·]?))=(o.eqs.map Prod.snd,v,cd,m,i,obs,true,cells)):Seg o v cd m i obs ix cells:=by
 simp only [Prod.mk.injEq] at h;obtain ⟨h1,h2,h3,h4,h5,h6,h7,h8⟩:=h;rw [Bool.and_eq_true] at h7;exact ⟨h1,h2,h3,h4,h5,h6,h7.1,h7.2,h8⟩
structure SegL (o:Out) (cd:Code) (m i:Nat) (obs:List Ob) (ix:List Nat) (cells:List (Addr×Obj)):Prop extends Seg o .stop cd m i obs ix cells where
 wq:(weightF cd,quietF cd)=(0,true)
abbrev qW(o:Out):=SegL o o.res.callee
theorem SegL.of{o:Out}{cd:Code}{m i:Nat}{obs:List Ob}{ix:List Nat}{cells:List (Addr×Obj)} (h:((weightF cd,quietF cd),o.eqs.map Prod.fst,o.res.view,o.res.code,o.m,o.i,o.obs,Nat.ble o.res.d 20&&Nat.ble o.res.K.length 30,ix.filterMap (o.led[·]?))=((0,true),o.eqs.map Prod.snd,.stop,cd,m,i,obs,true,cells)):SegL o cd m i obs ix cells:=
 ⟨Seg.of (congrArg Prod.snd h),congrArg Prod.fst h⟩
theorem Res.stop_of{r:Res}(h:r.view=.stop):r.call? =some r.callee:=by
 cases r with
 | stop a b c d e=>rfl
 | fin f=>cases f<;>cases h
 | _=>cases h
theorem Res.callee_of{r:Res}(h:r.view=.stop):r.callee=r.code:=by
 cases r with
 | stop a b c d e=>rfl
 | fin f=>cases f<;>cases h
 | _=>cases h
theorem Res.flow_of{r:Res}{f:Flow}(h:r.view=.flow f):r.fin? =some (.done f):=by
 cases r with
 | fin g=>cases g with
  | done x=>cases h;rfl
  | again x=>cases h
 | _=>cases h
theorem Res.again_of{r:Res}(h:r.view=.again):r.fin? =some (.again r.code):=by
 cases r with
 | fin g=>cases g with
  | done x=>cases h
  | again x=>rfl
 | _=>cases h
theorem Res.hold_of{r:Res}(h:r.view=.hold):r.isHold=true:=by
 cases r with
 | hold a b c d=>rfl
 | fin g=>cases g<;>cases h
 | _=>cases h
theorem Has.nil(h:Heap):Has h []:=⟨fun _ hp=>(nomatch hp),List.nodup_nil,fun _ hp=>(nomatch hp)⟩
theorem Has.ext{h h':Heap}{l:List (Addr×Obj)}(H:Has h l)(X:Ext [] h h'):Has h' l:=
 ⟨fun p hp=>X.keep _ _ (H.own p hp) (fun hx=>(nomatch hx)),H.nodup,H.apart⟩
theorem Has.join{h:Heap}{l l':List (Addr×Obj)}(H:Has h l)(H':Has h l')(hd:∀p∈l,∀q∈l',p.1≠q.1):Has h (l++l'):=by
 refine ⟨fun p hp=>(List.mem_append.mp hp).elim (H.own p) (H'.own p),?_,fun p hp=>(List.mem_append.mp hp).elim (H.apart p) (H'.apart p)⟩;rw [List.map_append];refine List.nodup_append.mpr ⟨H.nodup,H'.nodup,fun a ha b hb e=>?_⟩;obtain ⟨p,hp,rfl⟩:=List.mem_map.mp ha;obtain ⟨q,hq,rfl⟩:=List.mem_map.mp hb;exact hd p hp q hq e
theorem Has.lt{h:Heap}{l:List (Addr×Obj)}(H:Has h l){p:Addr×Obj}(hp:p∈l):p.1<h.objs.size:=Heap.lt_size (H.own p hp)
theorem Has.new{h h':Heap}{l nw:List (Addr×Obj)}(H:Has h l)(X:Ext [] h h')(N:Has h' nw)(hn:∀p∈nw,h.objs.size<=p.1):Has h' (nw++l):=
 N.join (H.ext X) fun p hp q hq e=>absurd (H.lt hq) (Nat.not_lt.mpr (e▸hn p hp))
theorem Has.left{h:Heap}{l l':List (Addr×Obj)}(H:Has h (l++l')):Has h l:=
 ⟨fun p hp=>H.own p (List.mem_append_left _ hp),by have:=H.nodup;rw [List.map_append] at this;exact (List.nodup_append.mp this).1,fun p hp=>H.apart p (List.mem_append_left _ hp)⟩
theorem Has.right{h:Heap}{l l':List (Addr×Obj)}(H:Has h (l++l')):Has h l':=
 ⟨fun p hp=>H.own p (List.mem_append_right _ hp),by have:=H.nodup;rw [List.map_append] at this;exact (List.nodup_append.mp this).2.1,fun p hp=>H.apart p (List.mem_append_right _ hp)⟩
theorem Has.apart2{h:Heap}{l l':List (Addr×Obj)}(H:Has h (l++l')){p q:Addr×Obj}(hp:p∈l)(hq:q∈l'):p.1≠q.1:=by
 have:=H.nodup;rw [List.map_append] at this;exact (List.nodup_append.mp this).2.2 _ (List.mem_map_of_mem hp) _ (List.mem_map_of_mem hq)
theorem Has.with1{h:Heap}{l E:List (Addr×Obj)}(H:Has h (l++E)){p:Addr×Obj}(hp:p∈E):Has h (l++[p]):=
 H.left.join ⟨fun q hq=>by rw [List.mem_singleton.mp hq];exact H.right.own p hp,by simp,fun q hq=>by rw [List.mem_singleton.mp hq];exact H.right.apart p hp⟩
  fun q hq r hr=>by rw [List.mem_singleton.mp hr];exact H.apart2 hq hp
theorem Has.sel{h:Heap}{l E ro:List (Addr×Obj)}(H:Has h (l++E))(jx:List Nat)(e:ro=jx.filterMap (E[·]?))(hn:jx.Nodup:=by decide):Has h (l++ro):=by
 have R:=H.right.pick jx e hn;refine H.left.join R fun p hp q hq=>H.apart2 hp ?_;rw [e] at hq;obtain ⟨i,_,hi⟩:=List.mem_filterMap.mp hq;exact List.mem_of_getElem? hi
theorem Has.perm{h:Heap}{l l':List (Addr×Obj)}(H:Has h l)(hp:l.Perm l'):Has h l':=
 ⟨fun p hq=>H.own p (hp.mem_iff.mpr hq),(hp.map _).nodup_iff.mp H.nodup,fun p hq=>H.apart p (hp.mem_iff.mpr hq)⟩
theorem Rep.step{B:Base}{h h':Heap}{l1 l1' ro E nw led:List (Addr×Obj)}{m:Nat}{ix:List Nat}(D:Rep B h ((l1++ro).map (·.1)) h' led m)(hpick:ix.filterMap (led[·]?)=nw++(l1'++ro))(hix:ix.Nodup) (hadr:l1'.map (·.1)=l1.map (·.1))(H:Has h (l1++E))(hro:∀p∈ro,p∈E)(hnew:∀p∈nw,h.objs.size<=p.1):Has h' (nw++(l1'++E))/\Ext (l1.map (·.1)) h h':=by
 have N:=D.has.pick ix hpick.symm hix;have X:=D.ext;have X':Ext (l1.map (·.1)) h h':=⟨X.size,fun b o e hb=>by
  by_cases hr:b∈ro.map (·.1)
  ·obtain ⟨p,hp,rfl⟩:=List.mem_map.mp hr;have h1:=H.right.own p (hro p hp);rw [h1] at e;cases e;exact N.right.right.own p hp
  ·refine X.keep b o e fun hm=>?_;rw [List.map_append] at hm;exact (List.mem_append.mp hm).elim hb hr⟩
 refine ⟨?_,X'⟩;have HE:Has h' E:=⟨fun p hp=>X'.keep _ _ (H.right.own p hp) fun hm=>by
   obtain ⟨q,hq,e⟩:=List.mem_map.mp hm;exact H.apart2 hq hp e,H.right.nodup,H.right.apart⟩
 have HL:Has h' (l1'++E):=N.right.left.join HE fun p hp q hq e=>by
  have:p.1∈l1.map (·.1):=by rw [←hadr];exact List.mem_map_of_mem hp
  obtain ⟨r,hr,er⟩:=List.mem_map.mp this;exact H.apart2 hr hq (er.trans e)
 refine N.left.join HL fun p hp q hq e=>?_;rcases List.mem_append.mp hq with h1 | h1
 ·exact N.apart2 hp (List.mem_append_left _ h1) e
 ·exact absurd (H.right.lt h1) (Nat.not_lt.mpr (e▸hnew p hp))
noncomputable abbrev PP(w:World):Params:=Pf w.params (w.params.followText "special-get-raises") (w.params.followText "comprehension-iter-twice")
theorem QR(w:World):w.params=PP w:=(LT w.params).symm
noncomputable abbrev W1(w:World):Bool:=w.params.followText "special-get-raises"
noncomputable abbrev W2(w:World):Bool:=w.params.followText "comprehension-iter-twice"
noncomputable def cTest(ss:List (Code×Pos)):Bool:=Nat.ble cLine (PySem.W.Fast.tw3755427657022040156 (PySem.W.R.mapR (fun x=>PySem.W.Fast.tw165980757501359005 x.fst) ss))
theorem BS:cTest []=false:=by kernel_rfl
theorem Wv{ss:List (Code×Pos)}(h:unitsOf ss<cLine):cTest ss=false:=by
 unfold cTest;rw [←PySem.W.Fast.te3755427657022040156,←PySem.W.R.mapR_eq,←PySem.W.Fast.te165980757501359005];cases hc:Nat.ble cLine (List.map (fun x:Code×Pos=>x.fst.cUnits) ss).sum with
 | false=>rfl
 | true=>
  have:=Nat.le_of_ble_eq_true hc;have h':(List.map (fun x:Code×Pos=>x.fst.cUnits) ss).sum<cLine:=h;omega
def DG{α:Type}(f:List (Code×Pos)->Sem α):Prop:=∀ss,cTest ss=false->f ss=f []
theorem Fj{α β:Type}{f:List (Code×Pos)->Sem β}{m:List (Code×Pos)->Sem α}{p0 p1 p2 p3 p4 p5 p6 p7 p8 p9 p10 p11 p12 p13 p14 p15 p16 p17 p18 p19 p20 p21 p22 p23 p24 p25}
  (e:∀ss,f ss=@Sem.rec α (fun _=>Sem β) p0 p1 p2 p3 p4 p5 p6 p7 p8 p9 p10 p11 p12 p13 p14 p15 p16 p17 p18 p19 p20 p21 p22 p23 p24 p25 (m ss))(d:DG m):DG f:=
 fun ss h=>by rw [e ss,e [],d ss h]
theorem Fk{α:Type}{f:List (Code×Pos)->Sem α}{U V:Sem α}(e:∀ss,f ss=if PySem.W.Fast.tw3755427657022040156 (PySem.W.R.mapR (fun x=>PySem.W.Fast.tw165980757501359005 x.fst) ss)>=cLine then U else V):DG f:=
 fun ss h=>by
  have h0:cTest []=false:=BS;unfold cTest at h h0;rw [e ss,e [],if_neg (fun x=>by rw [Nat.ble_eq_true_of_le x] at h;cases h),if_neg (fun x=>by rw [Nat.ble_eq_true_of_le x] at h0;cases h0)]
structure Room (k:Nat) (A:Around):Prop where
 h:A.handled=none
 d:A.depth+200+k<=recursionLimit
 u:A.units+20*k+1000<=cLine
theorem Bw(c:Code):c.frames<=3:=by
 unfold Code.frames
 split<;>(try split)<;>decide
theorem QQ(c:Code):c.cUnits<=10:=by
 have:=Bw c;unfold Code.cUnits
 split<;>lia
theorem yV{cm:Bool}{A:Around}:∀(K:List Fm) (c:Code),(ar cm A K c).units<=A.units+10*(K.length+1)
 | [],c=>by
  have:=QQ c;cases cm
  ·show A.units<=_;lia
  ·show A.units+c.cUnits<=_;have:([]:List Fm).length=0:=rfl;lia
 | fm::K,c=>by
  have h1:=yV (cm:=cm) (A:=A) K fm.c;have h2:=QQ c;show (ar cm A K fm.c).units+c.cUnits<=_;rw [List.length_cons];lia
theorem Bh{A:Around}(h:A.handled=none):(A.mark none).handled=none:=by
 show (none:Option Value).or A.handled=none;rw [h];rfl
section
variable{w:World}{A:Around}{k:Nat}{Q:Fin->Shared->Prop}{E:Value->Shared->Prop}{h:Heap}{g:Array GenState}{dr:Drawn}{os:OsState}{cm:Bool}{tk:Nat}
 {f:Nat}{O:List Nat}{R:List Pr}{c:Code}{t:Sem Fin}{K:List Fm}{d:Nat}{l:List (Addr×Obj)}{o:Out}{cd:Code}{m i:Nat}{obs:List Ob}{ix:List Nat}{cells:List (Addr×Obj)}
theorem yt(rm:Room (k+20) A)(hp:Prog (PP w) h)(H:Has h l)(hdep:(ar cm A K c).depth<=A.depth+d)(hK:KOk cm A K) (ho:o=ev ⟨pw,PP w,h.objs.size,tk,cm⟩ f O R c t K d l 0 0 [] [])(sg:Seg o .stop cd m i obs ix cells)(hobs:∀b∈obs,b.Holds (PP w) (model pw w)) (Hn:∀h',Rep ⟨pw,PP w,h.objs.size,tk,cm⟩ h (l.map (·.1)) h' o.led m->KOk cm A o.res.K->(ar cm A o.res.K o.res.c).depth<=A.depth+o.res.d->Room k ((ar cm A o.res.K o.res.c).mark none)-> codeAny (model pw w) ((ar cm A o.res.K o.res.c).mark none) cd (fun r s'=>Goes cm (model pw w) A Q E o.res.K o.res.c (o.res.k r) s') ⟨h',g,dr,tk+i,os⟩):
  Goes cm (model pw w) A Q E K c t ⟨h,g,dr,tk,os⟩:=by
 have hd':A.depth+200<=recursionLimit:=Nat.le_trans (lar) rm.d;have hcd:o.res.callee=cd:=(Res.callee_of sg.view).trans sg.code;subst ho;refine Bu (B:=⟨pw,PP w,h.objs.size,tk,cm⟩) rfl (QR w) rm.h hd' (Rep.start hp H) hdep hK (Checks.of sg.eqs sg.obs hobs) (Res.stop_of sg.view) ?_;intro h' D' k1 k2;rw [sg.m] at D';rw [sg.i,hcd];refine Hn h' D' k1 k2 ⟨?_,?_,?_⟩
 ·exact Bh (ZE rm.h _ _)
 ·show (ar cm A _ _).depth+200+k<=recursionLimit;have h1:=Nat.le_of_ble_eq_true sg.d;have h2:=rm.d;have h3:(ar cm A (ev ⟨pw,PP w,h.objs.size,tk,cm⟩ f O R c t K d l 0 0 [] []).res.K (ev ⟨pw,PP w,h.objs.size,tk,cm⟩ f O R c t K d l 0 0 [] []).res.c).depth<=A.depth+(ev ⟨pw,PP w,h.objs.size,tk,cm⟩ f O R c t K d l 0 0 [] []).res.d:=k2;omega
 ·show (ar cm A _ _).units+20*k+1000<=cLine;have h1:=Nat.le_of_ble_eq_true sg.kl;have h2:=rm.u;have h3:=yV (cm:=cm) (A:=A) (ev ⟨pw,PP w,h.objs.size,tk,cm⟩ f O R c t K d l 0 0 [] []).res.K (ev ⟨pw,PP w,h.objs.size,tk,cm⟩ f O R c t K d l 0 0 [] []).res.c;lia
theorem Tk(rm:Room k A)(dep:DG o.res.hk)(hp:Prog (PP w) h)(H:Has h l)(hdep:(ar cm A K c).depth<=A.depth+d)(hK:KOk cm A K) (ho:o=ev ⟨pw,PP w,h.objs.size,tk,cm⟩ f O R c t K d l 0 0 [] [])(sg:Seg o .hold cd m i obs ix cells)(hobs:∀b∈obs,b.Holds (PP w) (model pw w)) (Hn:∀h',Rep ⟨pw,PP w,h.objs.size,tk,cm⟩ h (l.map (·.1)) h' o.led m->KOk cm A o.res.K->(ar cm A o.res.K o.res.c).depth<=A.depth+o.res.d->
   Goes cm (model pw w) A Q E o.res.K o.res.c (o.res.hk []) ⟨h',g,dr,tk+i,os⟩):
  Goes cm (model pw w) A Q E K c t ⟨h,g,dr,tk,os⟩:=by
 have hd':A.depth+200<=recursionLimit:=Nat.le_trans (lar) rm.d;subst ho;refine Bv (B:=⟨pw,PP w,h.objs.size,tk,cm⟩) rfl (QR w) rm.h hd' (Rep.start hp H) hdep hK (Checks.of sg.eqs sg.obs hobs) (Res.hold_of sg.view) ?_;intro h' D' k1 k2 S hS;rw [sg.m] at D';rw [sg.i];have hu:unitsOf S<cLine:=by
  have h1:=Nat.le_of_ble_eq_true sg.kl;have h2:=rm.u;have h3:=yV (cm:=cm) (A:=A) (ev ⟨pw,PP w,h.objs.size,tk,cm⟩ f O R c t K d l 0 0 [] []).res.K (ev ⟨pw,PP w,h.objs.size,tk,cm⟩ f O R c t K d l 0 0 [] []).res.c;have hS':unitsOf S<=(ar cm A (ev ⟨pw,PP w,h.objs.size,tk,cm⟩ f O R c t K d l 0 0 [] []).res.K (ev ⟨pw,PP w,h.objs.size,tk,cm⟩ f O R c t K d l 0 0 [] []).res.c).units:=hS;lia
 rw [dep S (Wv hu)];exact Hn h' D' k1 k2
theorem FF{fl:Flow}(rm:Room k A)(hp:Prog (PP w) h)(H:Has h l)(hdep:(ar cm A K c).depth<=A.depth+d)(hK:KOk cm A K) (ho:o=ev ⟨pw,PP w,h.objs.size,tk,cm⟩ f O R c t K d l 0 0 [] [])(sg:Seg o (.flow fl) cd m i obs ix cells)(hobs:∀b∈obs,b.Holds (PP w) (model pw w)) (Hn:∀h',Rep ⟨pw,PP w,h.objs.size,tk,cm⟩ h (l.map (·.1)) h' o.led m->Q (.done fl) ⟨h',g,dr,tk+i,os⟩):
  Goes cm (model pw w) A Q E K c t ⟨h,g,dr,tk,os⟩:=by
 have hd':A.depth+200<=recursionLimit:=Nat.le_trans (lar) rm.d;subst ho;refine F3 (B:=⟨pw,PP w,h.objs.size,tk,cm⟩) rfl (QR w) rm.h hd' (Rep.start hp H) hdep hK (Checks.of sg.eqs sg.obs hobs) (Res.flow_of sg.view) ?_;intro h' D';rw [sg.m] at D';rw [sg.i];have:=Hn h' D';show (Rs cm _ A Q E []).1 (.done fl) _;cases cm<;>exact this
theorem Zp(rm:Room k A)(hp:Prog (PP w) h)(H:Has h l)(hdep:(ar true A K c).depth<=A.depth+d)(hK:KOk true A K) (ho:o=ev ⟨pw,PP w,h.objs.size,tk,true⟩ f O R c t K d l 0 0 [] [])(sg:Seg o .again cd m i obs ix cells)(hobs:∀b∈obs,b.Holds (PP w) (model pw w))(hq:cd.quiet=true) (Hn:∀h',Rep ⟨pw,PP w,h.objs.size,tk,true⟩ h (l.map (·.1)) h' o.led m->codeAny (model pw w) A cd (asR Q E) ⟨h',g,dr,tk+i,os⟩):
  Goes true (model pw w) A Q E K c t ⟨h,g,dr,tk,os⟩:=by
 have hd':A.depth+200<=recursionLimit:=Nat.le_trans (lar) rm.d;subst ho;refine F3 (B:=⟨pw,PP w,h.objs.size,tk,true⟩) rfl (QR w) rm.h hd' (Rep.start hp H) hdep hK (Checks.of sg.eqs sg.obs hobs) (Res.again_of sg.view) ?_;intro h' D';rw [sg.m] at D';rw [sg.i];have:=Hn h' D';show (Rs true _ A Q E []).1 (.again _) _;refine And.intro ?_ ?_
 ·rw [sg.code];exact hq
 ·rw [sg.code];exact this
end
noncomputable def SD(o:Out)(ix:List Nat):=(o.eqs.map Prod.fst,o.res.view,o.res.code,o.m,o.i,o.obs,Nat.ble o.res.d 20&&Nat.ble o.res.K.length 30,ix.filterMap (o.led[·]?))
noncomputable def Sx(o:Out)(v:View)(cd:Code)(m i:Nat)(obs:List Ob)(cells:List (Addr×Obj)):=(o.eqs.map Prod.snd,v,cd,m,i,obs,true,cells)
theorem sO'{F:Bool->Out}{v:View}{cd:Bool->Code}{m i:Nat}{obs:List Ob}{ix:List Nat}{cells:List (Addr×Obj)} (h:SD (F false) ix=Sx (F false) v (cd false) m i obs cells:=by kernel_rfl)(h':SD (F true) ix=Sx (F true) v (cd true) m i obs cells:=by kernel_rfl):∀b,Seg (F b) v (cd b) m i obs ix cells:=by
 intro b;cases b
 ·exact Seg.of h
 ·exact Seg.of h'
theorem sT'{F:Bool->Bool->Out}{v:View}{cd:Bool->Bool->Code}{m i:Nat}{obs:List Ob}{ix:List Nat}{cells:List (Addr×Obj)} (h1:SD (F false false) ix=Sx (F false false) v (cd false false) m i obs cells:=by kernel_rfl)(h2:SD (F false true) ix=Sx (F false true) v (cd false true) m i obs cells:=by kernel_rfl)(h3:SD (F true false) ix=Sx (F true false) v (cd true false) m i obs cells:=by kernel_rfl)(h4:SD (F true true) ix=Sx (F true true) v (cd true true) m i obs cells:=by kernel_rfl):∀b c,Seg (F b c) v (cd b c) m i obs ix cells:=by
 intro b c;cases b
 ·cases c
  ·exact Seg.of h1
  ·exact Seg.of h2
 ·cases c
  ·exact Seg.of h3
  ·exact Seg.of h4
theorem eO'{α:Type}{F G:Bool->α}(h:F false=G false:=by kernel_rfl)(h':F true=G true:=by kernel_rfl):∀b,F b=G b:=by
 intro b;cases b
 ·exact h
 ·exact h'
theorem eT'{α:Type}{F G:Bool->Bool->α}(h1:F false false=G false false:=by kernel_rfl)(h2:F false true=G false true:=by kernel_rfl)(h3:F true false=G true false:=by kernel_rfl)(h4:F true true=G true true:=by kernel_rfl):∀b c,F b c=G b c:=by
 intro b c;cases b
 ·cases c
  ·exact h1
  ·exact h2
 ·cases c
  ·exact h3
  ·exact h4
theorem sO{p:Prop}(h:p:=by revert b1;exact sO'):p:=h
theorem sT{p:Prop}(h:p:=by revert b1 b2;exact sT'):p:=h
theorem eO{p:Prop}(h:p:=by revert b1;exact eO'):p:=h
theorem eT{p:Prop}(h:p:=by revert b1 b2;exact eT'):p:=h
noncomputable def Ea(o:Out)(cd:Code)(ix:List Nat):=((weightF cd,quietF cd),SD o ix)
noncomputable def DW(o:Out)(v:View)(cd:Code)(m i:Nat)(obs:List Ob)(cells:List (Addr×Obj)):=((0,true),Sx o v cd m i obs cells)
theorem lO'{F:Bool->Out}{cd:Bool->Code}{m i:Nat}{obs:List Ob}{ix:List Nat}{cells:List (Addr×Obj)} (h:Ea (F false) (cd false) ix=DW (F false) .stop (cd false) m i obs cells:=by kernel_rfl)(h':Ea (F true) (cd true) ix=DW (F true) .stop (cd true) m i obs cells:=by kernel_rfl):∀b,SegL (F b) (cd b) m i obs ix cells:=by
 intro b;cases b
 ·exact SegL.of h
 ·exact SegL.of h'
theorem lT'{F:Bool->Bool->Out}{cd:Bool->Bool->Code}{m i:Nat}{obs:List Ob}{ix:List Nat}{cells:List (Addr×Obj)} (h1:Ea (F false false) (cd false false) ix=DW (F false false) .stop (cd false false) m i obs cells:=by kernel_rfl)(h2:Ea (F false true) (cd false true) ix=DW (F false true) .stop (cd false true) m i obs cells:=by kernel_rfl)(h3:Ea (F true false) (cd true false) ix=DW (F true false) .stop (cd true false) m i obs cells:=by kernel_rfl)(h4:Ea (F true true) (cd true true) ix=DW (F true true) .stop (cd true true) m i obs cells:=by kernel_rfl):∀b c,SegL (F b c) (cd b c) m i obs ix cells:=by
 intro b c;cases b
 ·cases c
  ·exact SegL.of h1
  ·exact SegL.of h2
 ·cases c
  ·exact SegL.of h3
  ·exact SegL.of h4
abbrev SegE(o:Out)(v:View)(cd:Code)(m i:Nat)(obs:List Ob)(ix:List Nat)(cells:List (Addr×Obj)):Prop:=SD o ix=Sx o v cd m i obs cells
theorem SegE.sg{o:Out}{v:View}{cd:Code}{m i:Nat}{obs:List Ob}{ix:List Nat}{cells:List (Addr×Obj)}(h:SegE o v cd m i obs ix cells):Seg o v cd m i obs ix cells:=Seg.of h
abbrev SegLE(o:Out)(cd:Code)(m i:Nat)(obs:List Ob)(ix:List Nat)(cells:List (Addr×Obj)):Prop:=Ea o cd ix=DW o .stop cd m i obs cells
theorem SegLE.toSeg{o:Out}{cd:Code}{m i:Nat}{obs:List Ob}{ix:List Nat}{cells:List (Addr×Obj)}(h:SegLE o cd m i obs ix cells):Seg o .stop cd m i obs ix cells:=(SegL.of h).toSeg
theorem SegLE.wq{o:Out}{cd:Code}{m i:Nat}{obs:List Ob}{ix:List Nat}{cells:List (Addr×Obj)}(h:SegLE o cd m i obs ix cells):(weightF cd,quietF cd)=(0,true):=(SegL.of h).wq
abbrev DF(o:Out):=SegE o .stop o.res.callee
abbrev VX(o:Out):=SegLE o o.res.callee
abbrev XD(o:Out):=SegE o (.flow .next) (.call .none {})
theorem gO'{p:Bool->Prop}(h:p false:=by kernel_rfl)(h':p true:=by kernel_rfl):∀b,p b:=by
 intro b;cases b
 ·exact h
 ·exact h'
theorem gT'{p:Bool->Bool->Prop}(h1:p false false:=by kernel_rfl)(h2:p false true:=by kernel_rfl)(h3:p true false:=by kernel_rfl)(h4:p true true:=by kernel_rfl):∀b c,p b c:=by
 intro b c;cases b
 ·cases c
  ·exact h1
  ·exact h2
 ·cases c
  ·exact h3
  ·exact h4
theorem gO{p:Prop}(h:p:=by revert b1;exact gO'):p:=h
theorem gT{p:Prop}(h:p:=by revert b1 b2;exact gT'):p:=h
theorem lO{p:Prop}(h:p:=by revert b1;exact lO'):p:=h
theorem lT{p:Prop}(h:p:=by revert b1 b2;exact lT'):p:=h
abbrev Ni(o:Out):=Seg o (.flow .next) (.call .none {})

section
variable{w:World}{A:Around}{k:Nat}{Q:Fin->Shared->Prop}{E:Value->Shared->Prop}{h:Heap}{g:Array GenState}{dr:Drawn}{os:OsState}{cm:Bool}{tk:Nat}
 {f:Nat}{O:List Nat}{R:List Pr}{c:Code}{t:Sem Fin}{K:List Fm}{d:Nat}{o:Out}{cd:Code}{m i:Nat}{obs:List Ob}{ix:List Nat}{l l1 l1' ro nw Ev:List (Addr×Obj)}
theorem Yo{fl:Flow}(sg:Seg o (.flow fl) cd m i obs ix (nw++(l1'++ro)))(ho:o=ev ⟨pw,PP w,h.objs.size,tk,cm⟩ f O R c t K d l 0 0 [] [])(hl:l=l1++ro)(hobs:∀b∈obs,b.Holds (PP w) (model pw w))
  (rm:Room k A)(hp:Prog (PP w) h)(H:Has h (l1++Ev))(HL:Has h (l1++ro))(hro:∀p∈ro,p∈Ev)(hdep:(ar cm A K c).depth<=A.depth+d)(hK:KOk cm A K) (hix:ix.Nodup)(hadr:l1'.map (·.1)=l1.map (·.1))(hnew:∀p∈nw,h.objs.size<=p.1) (Hn:∀h',Prog (PP w) h'->Has h' (nw++(l1'++Ev))->Ext (l1.map (·.1)) h h'->Q (.done fl) ⟨h',g,dr,tk+i,os⟩):
  Goes cm (model pw w) A Q E K c t ⟨h,g,dr,tk,os⟩:=by
 subst hl;refine FF rm hp HL hdep hK ho sg hobs ?_;intro h' D';obtain ⟨S1,S2⟩:=D'.step sg.pick hix hadr H hro hnew;exact Hn h' D'.toProg S1 S2
theorem y9(sg:Seg o .again cd m i obs ix (nw++(l1'++ro)))(ho:o=ev ⟨pw,PP w,h.objs.size,tk,true⟩ f O R c t K d l 0 0 [] [])(hl:l=l1++ro)(hobs:∀b∈obs,b.Holds (PP w) (model pw w))(hq:cd.quiet=true)
  (rm:Room k A)(hp:Prog (PP w) h)(H:Has h (l1++Ev))(HL:Has h (l1++ro))(hro:∀p∈ro,p∈Ev)(hdep:(ar true A K c).depth<=A.depth+d)(hK:KOk true A K) (hix:ix.Nodup)(hadr:l1'.map (·.1)=l1.map (·.1))(hnew:∀p∈nw,h.objs.size<=p.1) (Hn:∀h',Prog (PP w) h'->Has h' (nw++(l1'++Ev))->Ext (l1.map (·.1)) h h'->codeAny (model pw w) A cd (asR Q E) ⟨h',g,dr,tk+i,os⟩):
  Goes true (model pw w) A Q E K c t ⟨h,g,dr,tk,os⟩:=by
 subst hl;refine Zp rm hp HL hdep hK ho sg hobs hq ?_;intro h' D';obtain ⟨S1,S2⟩:=D'.step sg.pick hix hadr H hro hnew;exact Hn h' D'.toProg S1 S2
theorem yr(sg:Seg o .stop cd m i obs ix (nw++(l1'++ro)))(ho:o=ev ⟨pw,PP w,h.objs.size,tk,cm⟩ f O R c t K d l 0 0 [] [])(hl:l=l1++ro)(hobs:∀b∈obs,b.Holds (PP w) (model pw w))
  (rm:Room (k+20) A)(hp:Prog (PP w) h)(H:Has h (l1++Ev))(HL:Has h (l1++ro))(hro:∀p∈ro,p∈Ev)(hdep:(ar cm A K c).depth<=A.depth+d)(hK:KOk cm A K) (hix:ix.Nodup)(hadr:l1'.map (·.1)=l1.map (·.1))(hnew:∀p∈nw,h.objs.size<=p.1) (Hn:∀h',Prog (PP w) h'->Has h' (nw++(l1'++Ev))->Ext (l1.map (·.1)) h h'->h'.objs.size=h.objs.size+m->KOk cm A o.res.K->(ar cm A o.res.K o.res.c).depth<=A.depth+o.res.d->Room k ((ar cm A o.res.K o.res.c).mark none)-> codeAny (model pw w) ((ar cm A o.res.K o.res.c).mark none) cd (fun r s'=>Goes cm (model pw w) A Q E o.res.K o.res.c (o.res.k r) s') ⟨h',g,dr,tk+i,os⟩):
  Goes cm (model pw w) A Q E K c t ⟨h,g,dr,tk,os⟩:=by
 subst hl;refine yt rm hp HL hdep hK ho sg hobs ?_;intro h' D' k1 k2 k3;obtain ⟨S1,S2⟩:=D'.step sg.pick hix hadr H hro hnew;exact Hn h' D'.toProg S1 S2 D'.size k1 k2 k3
end

noncomputable abbrev Xo(d:Addr):Obj:={cls:=.ref 197,dict:=some d}
noncomputable abbrev Xx(P:Params)(hk:Nat)(l:Addr):Obj:={cls:=Sv,data:=.dict ⟨[kn0 P hk (.ref l)]⟩ 1}

section
variable(b1 b2:Bool)(P:Params)
def Ah:List Nat:=oC [D5,dO 37 0x604181060c183060204088020400100040811004080020008102200810004001]
abbrev Fs l a0 a1 a2 he x d(P:Params) hk s0 u0 D0 v0 s1 u1 D1 v1 s2 u2 D2 v2:=([(l,listO [.ref a0,.ref a1,.ref a2] he),(x,Xo d),(d,Xx P hk l),(a0,YO [.str s0 u0,.str D0 v0]),(a1,YO [.str s1 u1,.str D1 v1]),(a2,YO [.str s2 u2,.str D2 v2])]:ZQ)
def get0(n t:Nat)(x d l a0 a1 a2:Addr)(s0 s1 s2 D0 D1 D2:Str)(hk he u0 u1 u2 v0 v1 v2:Nat)(s:Str)(u:Nat)(ln l0 l1 l2:Str):Out:=
 let xc:Code:=.call (.ref 144) ⟨[.ref x,.str s u],[]⟩;ev (bS b1 b2 P n t) 249 Ah [{v:=VS ln (t+3),di:=1},{v:=Value.none},{v:=VS l0 (t+12),di:=1},{v:=Value.bool true}] xc (XQ xc) [] 0 (Fs l a0 a1 a2 he x d P hk s0 u0 D0 v0 s1 u1 D1 v1 s2 u2 D2 v2) 0 0 [] []
theorem Li(n t:Nat)(x d l a0 a1 a2:Addr)(s0 s1 s2 D0 D1 D2:Str)(hk he u0 u1 u2 v0 v1 v2:Nat)(s:Str)(u:Nat)(ln l0 l1 l2:Str):Seg (get0 b1 b2 P n t x d l a0 a1 a2 s0 s1 s2 D0 D1 D2 hk he u0 u1 u2 v0 v1 v2 s u ln l0 l1 l2) (.flow (.ret (.str D0 v0))) (.call .none {}) 6 13 [oB "str.__eq__" [VS l0 (t+12),VS ln (t+3)] (t+13) (n+6) (Value.bool true),oB "str.lower" [VS s0 u0] (t+12) (n+6) (VS l0 (t+12)) (di:=1),oB "re.Pattern.search" [VR 69,VS ln (t+3)] (t+8) (n+2) Value.none,oB "str.lower" [VS s u] (t+3) (n+1) (VS ln (t+3)) (di:=1)] [6,7,8,9,10,11]
  ((Fs l a0 a1 a2 he x d P hk s0 u0 D0 v0 s1 u1 D1 v1 s2 u2 D2 v2)):=sO
def Ag:List Nat:=oC [D5,Cl,dO 11 0x2410904244891224081]
def get1(n t:Nat)(x d l a0 a1 a2:Addr)(s0 s1 s2 D0 D1 D2:Str)(hk he u0 u1 u2 v0 v1 v2:Nat)(s:Str)(u:Nat)(ln l0 l1 l2:Str):Out:=
 let xc:Code:=.call (.ref 144) ⟨[.ref x,.str s u],[]⟩;ev (bS b1 b2 P n t) 335 Ag [{v:=VS ln (t+3),di:=1},{v:=Value.none},{v:=VS l0 (t+12),di:=1},{v:=Value.bool false},{v:=VS l1 (t+15),di:=1},{v:=Value.bool true}] xc (XQ xc) [] 0 (Fs l a0 a1 a2 he x d P hk s0 u0 D0 v0 s1 u1 D1 v1 s2 u2 D2 v2) 0 0 [] []
section
variable(n t:Nat)(x d l a0 a1 a2:Addr)(s0 s1 s2 D0 D1 D2:Str)(hk he u0 u1 u2 v0 v1 v2:Nat)(s:Str)(u:Nat)(ln l0 l1 l2:Str)
theorem Lh:Seg (get1 b1 b2 P n t x d l a0 a1 a2 s0 s1 s2 D0 D1 D2 hk he u0 u1 u2 v0 v1 v2 s u ln l0 l1 l2) (.flow (.ret (.str D1 v1))) (.call .none {}) 9 16 [oB "str.__eq__" [VS l1 (t+15),VS ln (t+3)] (t+16) (n+9) (Value.bool true),oB "str.lower" [VS s1 u1] (t+15) (n+9) (VS l1 (t+15)) (di:=1),oB "str.__eq__" [VS l0 (t+12),VS ln (t+3)] (t+13) (n+6) (Value.bool false),oB "str.lower" [VS s0 u0] (t+12) (n+6) (VS l0 (t+12)) (di:=1),oB "re.Pattern.search" [VR 69,VS ln (t+3)] (t+8) (n+2) Value.none,oB "str.lower" [VS s u] (t+3) (n+1) (VS ln (t+3)) (di:=1)] [9,10,11,12,13,14]
  ((Fs l a0 a1 a2 he x d P hk s0 u0 D0 v0 s1 u1 D1 v1 s2 u2 D2 v2)):=sO
def Af:List Nat:=oC [D5,Cl,dO 65 0xc043010c183060c020409002040010004081200408002000810240081000400102007801e3c7870e1c5070e003800e0010904244891224081]
def get2:Out:=
 let xc:Code:=.call (.ref 144) ⟨[.ref x,.str s u],[]⟩;ev (bS b1 b2 P n t) 421 Af [{v:=VS ln (t+3),di:=1},{v:=Value.none},{v:=VS l0 (t+12),di:=1},{v:=Value.bool false},{v:=VS l1 (t+15),di:=1},{v:=Value.bool false},{v:=VS l2 (t+18),di:=1},{v:=Value.bool true}] xc (XQ xc) [] 0 (Fs l a0 a1 a2 he x d P hk s0 u0 D0 v0 s1 u1 D1 v1 s2 u2 D2 v2) 0 0 [] []
theorem Lg:Seg (get2 b1 b2 P n t x d l a0 a1 a2 s0 s1 s2 D0 D1 D2 hk he u0 u1 u2 v0 v1 v2 s u ln l0 l1 l2) (.flow (.ret (.str D2 v2))) (.call .none {}) 12 19 [oB "str.__eq__" [VS l2 (t+18),VS ln (t+3)] (t+19) (n+12) (Value.bool true),oB "str.lower" [VS s2 u2] (t+18) (n+12) (VS l2 (t+18)) (di:=1),oB "str.__eq__" [VS l1 (t+15),VS ln (t+3)] (t+16) (n+9) (Value.bool false),oB "str.lower" [VS s1 u1] (t+15) (n+9) (VS l1 (t+15)) (di:=1),oB "str.__eq__" [VS l0 (t+12),VS ln (t+3)] (t+13) (n+6) (Value.bool false),oB "str.lower" [VS s0 u0] (t+12) (n+6) (VS l0 (t+12)) (di:=1),oB "re.Pattern.search" [VR 69,VS ln (t+3)] (t+8) (n+2) Value.none,oB "str.lower" [VS s u] (t+3) (n+1) (VS ln (t+3)) (di:=1)] [12,13,14,15,16,17]
  ((Fs l a0 a1 a2 he x d P hk s0 u0 D0 v0 s1 u1 D1 v1 s2 u2 D2 v2)):=sO
end
end

section
variable(b1 b2:Bool)(P:Params)
def RA:List Nat:=dO 20 0x6040040010203060c10200000810204000
section
variable(n t:Nat)(dl ct:Addr)(ds cu:List Value)(e e2:Nat)
def kept0:Out:=
 let xc:Code:=.call (.ref 254) ⟨[.ref dl,.ref ct],[]⟩;ev (bS b1 b2 P n t) 59 RA [] xc (XQ xc) [] 0 [(dl,listO ds e),(ct,listO cu e2)] 0 0 [] []
theorem JQ:qW (kept0 b1 b2 P n t dl ct ds cu e e2) 4 10 [] [0,1,2,3,4,5] ([(n+3,itO dl 0),(n+2,listO [.int 0 (t+6),.int 0 (t+7),.int 0 (t+8)] 0),(n+1,listO [.int 0 (t+2),.int 0 (t+3),.int 0 (t+4)] 0),
   (n+0,frameO [kn1 P (t+0) (.ref dl),kn2 P (t+1) (.ref ct),Ay P (t+5) (.ref (n+1)),Qo P (t+9) (.ref (n+2))] 4),
   (dl,listO ds e),(ct,listO cu e2)]):=lO
end
end

section
variable(b1 b2:Bool)(P:Params)
def Ko:List Nat:=oC [[1,2,1],HT,dO 32 0x4081091224285041c3870a141070e1428000083870e142850a14285]
abbrev Yl dk i ti j tj m tm ed:=((dk,listO [.int i ti,.int j tj,.int m tm] ed):Xp)
abbrev Ln n0 dl k(P:Params) q0 q1 ct q2 q3 ks ek cs ec ds e cu e2 dk i ti j tj m tm ed:=([(n0+3,itO dl k),(n0+0,frameO [kn1 P q0 (.ref dl),kn2 P q1 (.ref ct),Ay P q2 (.ref (n0+1)),Qo P q3 (.ref (n0+2))] 4),(n0+1,listO ks ek),(n0+2,listO cs ec),(dl,listO ds e),(ct,listO cu e2),(Yl dk i ti j tj m tm ed)]:ZQ)
def Ld(n0 t0 n t:Nat)(dl ct:Addr)(ds cu:List Value)(e e2:Nat)(k:Nat)(ks cs:List Value)(ek ec:Nat)(dk:Addr)(i j m:Int)(ti tj tm ed:Nat)(q0 q1 q2 q3:Nat)(ci ki kj cui:Int)(u1 u2 u3 u4:Nat):Out:=let xc:=(kept0 b1 b2 P n0 t0 dl ct ds cu e e2).res.callee;ev (bS b1 b2 P n t) 133 Ko [{v:=VR dk,rd:=[4],w:=some (0,itO dl (↑k+1))},{v:=VI ci u1,rd:=[6]},{v:=Value.none,w:=some (6,listO (cs.set i.toNat (VI (ci+1) (t+4))) ec)},{v:=VI (ci+1) (t+4),rd:=[6]},{v:=VI cui u4,rd:=[8]},{v:=Value.bool false}] xc (denF xc) [] 0 (Ln n0 dl k P q0 q1 ct q2 q3 ks ek cs ec ds e cu e2 dk i ti j tj m tm ed) 0 0 [] []
abbrev Lm n0(P:Params) q0 dl q1 ct q2 q3 t i ti j tj m tm:=((n0+0,frameO [kn1 P q0 (.ref dl),kn2 P q1 (.ref ct),Ay P q2 (.ref (n0+1)),Qo P q3 (.ref (n0+2)),kn5 P (t+0) (.int i ti),kn6 P (t+1) (.int j tj),kn7 P (t+2) (.int m tm)] 7):Xp)
theorem MG(n0 t0 n t:Nat)(dl ct:Addr)(ds cu:List Value)(e e2:Nat)(k:Nat)(ks cs:List Value)(ek ec:Nat)(dk:Addr)(i j m:Int)(ti tj tm ed:Nat)(q0 q1 q2 q3:Nat)(ci ki kj cui:Int)(u1 u2 u3 u4:Nat):Seg (Ld b1 b2 P n0 t0 n t dl ct ds cu e e2 k ks cs ek ec dk i j m ti tj tm ed q0 q1 q2 q3 ci ki kj cui u1 u2 u3 u4) (.again) ((kept0 b1 b2 P n0 t0 dl ct ds cu e e2).res.callee) 3 5 [oB "int.__le__" [VI (ci+1) (t+4),VI cui u4] (t+5) (n+3) (Value.bool false),oB "list.__getitem__" [VR ct,VI i ti] (t+5) (n+3) (VI cui u4) (rd:=[(ct,listO cu e2)]),oB "list.__getitem__" [VR (n0+2),VI i ti] (t+5) (n+3) (VI (ci+1) (t+4)) (rd:=[(n0+2,listO (cs.set i.toNat (VI (ci+1) (t+4))) ec)]),oB "list.__setitem__" [VR (n0+2),VI i ti,VI (ci+1) (t+4)] (t+5) (n+3) Value.none (w:=some (n0+2,listO cs ec,listO (cs.set i.toNat (VI (ci+1) (t+4))) ec)),oB "list.__getitem__" [VR (n0+2),VI i ti] (t+3) (n+3) (VI ci u1) (rd:=[(n0+2,listO cs ec)]),oB "list_iterator.__next__" [VR (n0+3)] (t+0) (n+0) (VR dk) (rd:=[(dl,listO ds e)]) (w:=some (n0+3,itO dl ↑k,itO dl (↑k+1)))] [3,4,5,6,7,8,9] ([(n0+3,itO dl ((k:Int)+1)),(Lm n0 P q0 dl q1 ct q2 q3 t i ti j tj m tm),(n0+1,listO ks ek),(n0+2,listO (cs.set i.toNat (.int (ci+1) (t+4))) ec),(dl,listO ds e),(ct,listO cu e2),(Yl dk i ti j tj m tm ed)]):=sO
def Nq:List Nat:=oC [Bf,dO 15 0x810000083870e142820c18305]
def TT(n0 t0 n t:Nat)(dl ct:Addr)(ds cu:List Value)(e e2:Nat)(k:Nat)(ks cs:List Value)(ek ec:Nat)(dk:Addr)(i j m:Int)(ti tj tm ed:Nat)(q0 q1 q2 q3:Nat)(ci ki kj cui:Int)(u1 u2 u3 u4:Nat):Out:=let xc:=(kept0 b1 b2 P n0 t0 dl ct ds cu e e2).res.callee;ev (bS b1 b2 P n t) 160 Nq [{v:=VR dk,rd:=[4],w:=some (0,itO dl (↑k+1))},{v:=VI ci u1,rd:=[6]},{v:=Value.none,w:=some (6,listO (cs.set i.toNat (VI (ci+1) (t+4))) ec)},{v:=VI (ci+1) (t+4),rd:=[6]},{v:=VI cui u4,rd:=[8]},{v:=Value.bool true},{v:=VI ki u2,rd:=[5]},{v:=VI (ci+1) (t+4),rd:=[6]},{v:=Value.bool false}] xc (denF xc) [] 0 (Ln n0 dl k P q0 q1 ct q2 q3 ks ek cs ec ds e cu e2 dk i ti j tj m tm ed) 0 0 [] []
section
variable(n0 t0 n t:Nat)(dl ct:Addr)(ds cu:List Value)(e e2 k:Nat)(ks cs:List Value)(ek ec:Nat)(dk:Addr)(i j m:Int)(ti tj tm ed q0 q1 q2 q3:Nat)(ci ki kj cui:Int)(u1 u2 u3 u4:Nat)
theorem FZ:Seg (TT b1 b2 P n0 t0 n t dl ct ds cu e e2 k ks cs ek ec dk i j m ti tj tm ed q0 q1 q2 q3 ci ki kj cui u1 u2 u3 u4) (.again) ((kept0 b1 b2 P n0 t0 dl ct ds cu e e2).res.callee) 3 7 [oB "int.__eq__" [VI ki u2,VI (ci+1 - 1) (t+6)] (t+7) (n+3) (Value.bool false),oB "list.__getitem__" [VR (n0+2),VI i ti] (t+5) (n+3) (VI (ci+1) (t+4)) (rd:=[(n0+2,listO (cs.set i.toNat (VI (ci+1) (t+4))) ec)]),oB "list.__getitem__" [VR (n0+1),VI i ti] (t+5) (n+3) (VI ki u2) (rd:=[(n0+1,listO ks ek)]),oB "int.__le__" [VI (ci+1) (t+4),VI cui u4] (t+5) (n+3) (Value.bool true),oB "list.__getitem__" [VR ct,VI i ti] (t+5) (n+3) (VI cui u4) (rd:=[(ct,listO cu e2)]),oB "list.__getitem__" [VR (n0+2),VI i ti] (t+5) (n+3) (VI (ci+1) (t+4)) (rd:=[(n0+2,listO (cs.set i.toNat (VI (ci+1) (t+4))) ec)]),oB "list.__setitem__" [VR (n0+2),VI i ti,VI (ci+1) (t+4)] (t+5) (n+3) Value.none (w:=some (n0+2,listO cs ec,listO (cs.set i.toNat (VI (ci+1) (t+4))) ec)),oB "list.__getitem__" [VR (n0+2),VI i ti] (t+3) (n+3) (VI ci u1) (rd:=[(n0+2,listO cs ec)]),oB "list_iterator.__next__" [VR (n0+3)] (t+0) (n+0) (VR dk) (rd:=[(dl,listO ds e)]) (w:=some (n0+3,itO dl ↑k,itO dl (↑k+1)))] [3,4,5,6,7,8,9] ([(n0+3,itO dl ((k:Int)+1)),(Lm n0 P q0 dl q1 ct q2 q3 t i ti j tj m tm),(n0+1,listO ks ek),(n0+2,listO (cs.set i.toNat (.int (ci+1) (t+4))) ec),(dl,listO ds e),(ct,listO cu e2),(Yl dk i ti j tj m tm ed)]):=sO
def GU:List Nat:=oC [Bf,dO 23 0x81020c183050a1410000083870e142820c18305]
def Bp:Out:=let xc:=(kept0 b1 b2 P n0 t0 dl ct ds cu e e2).res.callee;ev (bS b1 b2 P n t) 174 GU [{v:=VR dk,rd:=[4],w:=some (0,itO dl (↑k+1))},{v:=VI ci u1,rd:=[6]},{v:=Value.none,w:=some (6,listO (cs.set i.toNat (VI (ci+1) (t+4))) ec)},{v:=VI (ci+1) (t+4),rd:=[6]},{v:=VI cui u4,rd:=[8]},{v:=Value.bool true},{v:=VI ki u2,rd:=[5]},{v:=VI (ci+1) (t+4),rd:=[6]},{v:=Value.bool true},{v:=VI kj u3,rd:=[5]},{v:=Value.bool false}] xc (denF xc) [] 0 (Ln n0 dl k P q0 q1 ct q2 q3 ks ek cs ec ds e cu e2 dk i ti j tj m tm ed) 0 0 [] []
theorem Fe:Seg (Bp b1 b2 P n0 t0 n t dl ct ds cu e e2 k ks cs ek ec dk i j m ti tj tm ed q0 q1 q2 q3 ci ki kj cui u1 u2 u3 u4) (.again) ((kept0 b1 b2 P n0 t0 dl ct ds cu e e2).res.callee) 3 7 [oB "int.__le__" [VI m tm,VI kj u3] (t+7) (n+3) (Value.bool false),oB "list.__getitem__" [VR (n0+1),VI j tj] (t+7) (n+3) (VI kj u3) (rd:=[(n0+1,listO ks ek)]),oB "int.__eq__" [VI ki u2,VI (ci+1 - 1) (t+6)] (t+7) (n+3) (Value.bool true),oB "list.__getitem__" [VR (n0+2),VI i ti] (t+5) (n+3) (VI (ci+1) (t+4)) (rd:=[(n0+2,listO (cs.set i.toNat (VI (ci+1) (t+4))) ec)]),oB "list.__getitem__" [VR (n0+1),VI i ti] (t+5) (n+3) (VI ki u2) (rd:=[(n0+1,listO ks ek)]),oB "int.__le__" [VI (ci+1) (t+4),VI cui u4] (t+5) (n+3) (Value.bool true),oB "list.__getitem__" [VR ct,VI i ti] (t+5) (n+3) (VI cui u4) (rd:=[(ct,listO cu e2)]),oB "list.__getitem__" [VR (n0+2),VI i ti] (t+5) (n+3) (VI (ci+1) (t+4)) (rd:=[(n0+2,listO (cs.set i.toNat (VI (ci+1) (t+4))) ec)]),oB "list.__setitem__" [VR (n0+2),VI i ti,VI (ci+1) (t+4)] (t+5) (n+3) Value.none (w:=some (n0+2,listO cs ec,listO (cs.set i.toNat (VI (ci+1) (t+4))) ec)),oB "list.__getitem__" [VR (n0+2),VI i ti] (t+3) (n+3) (VI ci u1) (rd:=[(n0+2,listO cs ec)]),oB "list_iterator.__next__" [VR (n0+3)] (t+0) (n+0) (VR dk) (rd:=[(dl,listO ds e)]) (w:=some (n0+3,itO dl ↑k,itO dl (↑k+1)))] [3,4,5,6,7,8,9] ([(n0+3,itO dl ((k:Int)+1)),(Lm n0 P q0 dl q1 ct q2 q3 t i ti j tj m tm),(n0+1,listO ks ek),(n0+2,listO (cs.set i.toNat (.int (ci+1) (t+4))) ec),(dl,listO ds e),(ct,listO cu e2),(Yl dk i ti j tj m tm ed)]):=sO
def GT:List Nat:=oC [Bf,dO 34 0x1020c18285041c3870a141020c183050a1410000083870e142820c18305]
def Bo:Out:=let xc:=(kept0 b1 b2 P n0 t0 dl ct ds cu e e2).res.callee;ev (bS b1 b2 P n t) 192 GT [{v:=VR dk,rd:=[4],w:=some (0,itO dl (↑k+1))},{v:=VI ci u1,rd:=[6]},{v:=Value.none,w:=some (6,listO (cs.set i.toNat (VI (ci+1) (t+4))) ec)},{v:=VI (ci+1) (t+4),rd:=[6]},{v:=VI cui u4,rd:=[8]},{v:=Value.bool true},{v:=VI ki u2,rd:=[5]},{v:=VI (ci+1) (t+4),rd:=[6]},{v:=Value.bool true},{v:=VI kj u3,rd:=[5]},{v:=Value.bool true},{v:=VI (ci+1) (t+4),rd:=[6]},{v:=Value.none,w:=some (5,listO (ks.set i.toNat (VI (ci+1) (t+4))) ek)}] xc (denF xc) [] 0 (Ln n0 dl k P q0 q1 ct q2 q3 ks ek cs ec ds e cu e2 dk i ti j tj m tm ed) 0 0 [] []
theorem Fd:Seg (Bo b1 b2 P n0 t0 n t dl ct ds cu e e2 k ks cs ek ec dk i j m ti tj tm ed q0 q1 q2 q3 ci ki kj cui u1 u2 u3 u4) (.again) ((kept0 b1 b2 P n0 t0 dl ct ds cu e e2).res.callee) 3 7 [oB "list.__setitem__" [VR (n0+1),VI i ti,VI (ci+1) (t+4)] (t+7) (n+3) Value.none (w:=some (n0+1,listO ks ek,listO (ks.set i.toNat (VI (ci+1) (t+4))) ek)),oB "list.__getitem__" [VR (n0+2),VI i ti] (t+7) (n+3) (VI (ci+1) (t+4)) (rd:=[(n0+2,listO (cs.set i.toNat (VI (ci+1) (t+4))) ec)]),oB "int.__le__" [VI m tm,VI kj u3] (t+7) (n+3) (Value.bool true),oB "list.__getitem__" [VR (n0+1),VI j tj] (t+7) (n+3) (VI kj u3) (rd:=[(n0+1,listO ks ek)]),oB "int.__eq__" [VI ki u2,VI (ci+1 - 1) (t+6)] (t+7) (n+3) (Value.bool true),oB "list.__getitem__" [VR (n0+2),VI i ti] (t+5) (n+3) (VI (ci+1) (t+4)) (rd:=[(n0+2,listO (cs.set i.toNat (VI (ci+1) (t+4))) ec)]),oB "list.__getitem__" [VR (n0+1),VI i ti] (t+5) (n+3) (VI ki u2) (rd:=[(n0+1,listO ks ek)]),oB "int.__le__" [VI (ci+1) (t+4),VI cui u4] (t+5) (n+3) (Value.bool true),oB "list.__getitem__" [VR ct,VI i ti] (t+5) (n+3) (VI cui u4) (rd:=[(ct,listO cu e2)]),oB "list.__getitem__" [VR (n0+2),VI i ti] (t+5) (n+3) (VI (ci+1) (t+4)) (rd:=[(n0+2,listO (cs.set i.toNat (VI (ci+1) (t+4))) ec)]),oB "list.__setitem__" [VR (n0+2),VI i ti,VI (ci+1) (t+4)] (t+5) (n+3) Value.none (w:=some (n0+2,listO cs ec,listO (cs.set i.toNat (VI (ci+1) (t+4))) ec)),oB "list.__getitem__" [VR (n0+2),VI i ti] (t+3) (n+3) (VI ci u1) (rd:=[(n0+2,listO cs ec)]),oB "list_iterator.__next__" [VR (n0+3)] (t+0) (n+0) (VR dk) (rd:=[(dl,listO ds e)]) (w:=some (n0+3,itO dl ↑k,itO dl (↑k+1)))] [3,4,5,6,7,8,9] ([(n0+3,itO dl ((k:Int)+1)),(Lm n0 P q0 dl q1 ct q2 q3 t i ti j tj m tm),(n0+1,listO (ks.set i.toNat (.int (ci+1) (t+4))) ek),(n0+2,listO (cs.set i.toNat (.int (ci+1) (t+4))) ec),(dl,listO ds e),(ct,listO cu e2),(Yl dk i ti j tj m tm ed)]):=sO
end
def Kn:List Nat:=oC [[1,2,1],HT,dO 32 0x4081091224285041c3870a141070e1428000083870e142850a14285]
abbrev Ew n0(P:Params) q0 dl q1 ct q2 q3 q4 vi q5 vj q6 vm:=((n0+0,frameO [kn1 P q0 (.ref dl),kn2 P q1 (.ref ct),Ay P q2 (.ref (n0+1)),Qo P q3 (.ref (n0+2)),kn5 P q4 vi,kn6 P q5 vj,kn7 P q6 vm] 7):Xp)
abbrev Vj n0 dl k(P:Params) q0 q1 ct q2 q3 q4 vi q5 vj q6 vm ks ek cs ec ds e cu e2 dk i ti j tj m tm ed:=([(n0+3,itO dl k),(Ew n0 P q0 dl q1 ct q2 q3 q4 vi q5 vj q6 vm),(n0+1,listO ks ek),(n0+2,listO cs ec),(dl,listO ds e),(ct,listO cu e2),(Yl dk i ti j tj m tm ed)]:ZQ)
def Lc(n0 t0 n t:Nat)(dl ct:Addr)(ds cu:List Value)(e e2:Nat)(k:Nat)(ks cs:List Value)(ek ec:Nat)(dk:Addr)(i j m:Int)(ti tj tm ed:Nat)(q0 q1 q2 q3:Nat)(vi vj vm:Value)(q4 q5 q6:Nat)(ci ki kj cui:Int)(u1 u2 u3 u4:Nat):Out:=let xc:=(kept0 b1 b2 P n0 t0 dl ct ds cu e e2).res.callee;ev (bS b1 b2 P n t) 133 Kn [{v:=VR dk,rd:=[4],w:=some (0,itO dl (↑k+1))},{v:=VI ci u1,rd:=[6]},{v:=Value.none,w:=some (6,listO (cs.set i.toNat (VI (ci+1) (t+4))) ec)},{v:=VI (ci+1) (t+4),rd:=[6]},{v:=VI cui u4,rd:=[8]},{v:=Value.bool false}] xc (denF xc) [] 0 (Vj n0 dl k P q0 q1 ct q2 q3 q4 vi q5 vj q6 vm ks ek cs ec ds e cu e2 dk i ti j tj m tm ed) 0 0 [] []
abbrev Lk n0(P:Params) q0 dl q1 ct q2 q3 q4 i ti q5 j tj q6 m tm:=((n0+0,frameO [kn1 P q0 (.ref dl),kn2 P q1 (.ref ct),Ay P q2 (.ref (n0+1)),Qo P q3 (.ref (n0+2)),kn5 P q4 (.int i ti),kn6 P q5 (.int j tj),kn7 P q6 (.int m tm)] 7):Xp)
theorem MF(n0 t0 n t:Nat)(dl ct:Addr)(ds cu:List Value)(e e2:Nat)(k:Nat)(ks cs:List Value)(ek ec:Nat)(dk:Addr)(i j m:Int)(ti tj tm ed:Nat)(q0 q1 q2 q3:Nat)(vi vj vm:Value)(q4 q5 q6:Nat)(ci ki kj cui:Int)(u1 u2 u3 u4:Nat):Seg (Lc b1 b2 P n0 t0 n t dl ct ds cu e e2 k ks cs ek ec dk i j m ti tj tm ed q0 q1 q2 q3 vi vj vm q4 q5 q6 ci ki kj cui u1 u2 u3 u4) (.again) ((kept0 b1 b2 P n0 t0 dl ct ds cu e e2).res.callee) 3 5 [oB "int.__le__" [VI (ci+1) (t+4),VI cui u4] (t+5) (n+3) (Value.bool false),oB "list.__getitem__" [VR ct,VI i ti] (t+5) (n+3) (VI cui u4) (rd:=[(ct,listO cu e2)]),oB "list.__getitem__" [VR (n0+2),VI i ti] (t+5) (n+3) (VI (ci+1) (t+4)) (rd:=[(n0+2,listO (cs.set i.toNat (VI (ci+1) (t+4))) ec)]),oB "list.__setitem__" [VR (n0+2),VI i ti,VI (ci+1) (t+4)] (t+5) (n+3) Value.none (w:=some (n0+2,listO cs ec,listO (cs.set i.toNat (VI (ci+1) (t+4))) ec)),oB "list.__getitem__" [VR (n0+2),VI i ti] (t+3) (n+3) (VI ci u1) (rd:=[(n0+2,listO cs ec)]),oB "list_iterator.__next__" [VR (n0+3)] (t+0) (n+0) (VR dk) (rd:=[(dl,listO ds e)]) (w:=some (n0+3,itO dl ↑k,itO dl (↑k+1)))] [3,4,5,6,7,8,9] ([(n0+3,itO dl ((k:Int)+1)),(Lk n0 P q0 dl q1 ct q2 q3 q4 i ti q5 j tj q6 m tm),(n0+1,listO ks ek),(n0+2,listO (cs.set i.toNat (.int (ci+1) (t+4))) ec),(dl,listO ds e),(ct,listO cu e2),(Yl dk i ti j tj m tm ed)]):=sO
def Np:List Nat:=oC [Bf,dO 15 0x810000083870e142820c18305]
def TS(n0 t0 n t:Nat)(dl ct:Addr)(ds cu:List Value)(e e2:Nat)(k:Nat)(ks cs:List Value)(ek ec:Nat)(dk:Addr)(i j m:Int)(ti tj tm ed:Nat)(q0 q1 q2 q3:Nat)(vi vj vm:Value)(q4 q5 q6:Nat)(ci ki kj cui:Int)(u1 u2 u3 u4:Nat):Out:=let xc:=(kept0 b1 b2 P n0 t0 dl ct ds cu e e2).res.callee;ev (bS b1 b2 P n t) 160 Np [{v:=VR dk,rd:=[4],w:=some (0,itO dl (↑k+1))},{v:=VI ci u1,rd:=[6]},{v:=Value.none,w:=some (6,listO (cs.set i.toNat (VI (ci+1) (t+4))) ec)},{v:=VI (ci+1) (t+4),rd:=[6]},{v:=VI cui u4,rd:=[8]},{v:=Value.bool true},{v:=VI ki u2,rd:=[5]},{v:=VI (ci+1) (t+4),rd:=[6]},{v:=Value.bool false}] xc (denF xc) [] 0 (Vj n0 dl k P q0 q1 ct q2 q3 q4 vi q5 vj q6 vm ks ek cs ec ds e cu e2 dk i ti j tj m tm ed) 0 0 [] []
section
variable(n0 t0 n t:Nat)(dl ct:Addr)(ds cu:List Value)(e e2 k:Nat)(ks cs:List Value)(ek ec:Nat)(dk:Addr)(i j m:Int)(ti tj tm ed q0 q1 q2 q3:Nat)(vi vj vm:Value)(q4 q5 q6:Nat)(ci ki kj cui:Int)(u1 u2 u3 u4:Nat)
theorem FY:Seg (TS b1 b2 P n0 t0 n t dl ct ds cu e e2 k ks cs ek ec dk i j m ti tj tm ed q0 q1 q2 q3 vi vj vm q4 q5 q6 ci ki kj cui u1 u2 u3 u4) (.again) ((kept0 b1 b2 P n0 t0 dl ct ds cu e e2).res.callee) 3 7 [oB "int.__eq__" [VI ki u2,VI (ci+1 - 1) (t+6)] (t+7) (n+3) (Value.bool false),oB "list.__getitem__" [VR (n0+2),VI i ti] (t+5) (n+3) (VI (ci+1) (t+4)) (rd:=[(n0+2,listO (cs.set i.toNat (VI (ci+1) (t+4))) ec)]),oB "list.__getitem__" [VR (n0+1),VI i ti] (t+5) (n+3) (VI ki u2) (rd:=[(n0+1,listO ks ek)]),oB "int.__le__" [VI (ci+1) (t+4),VI cui u4] (t+5) (n+3) (Value.bool true),oB "list.__getitem__" [VR ct,VI i ti] (t+5) (n+3) (VI cui u4) (rd:=[(ct,listO cu e2)]),oB "list.__getitem__" [VR (n0+2),VI i ti] (t+5) (n+3) (VI (ci+1) (t+4)) (rd:=[(n0+2,listO (cs.set i.toNat (VI (ci+1) (t+4))) ec)]),oB "list.__setitem__" [VR (n0+2),VI i ti,VI (ci+1) (t+4)] (t+5) (n+3) Value.none (w:=some (n0+2,listO cs ec,listO (cs.set i.toNat (VI (ci+1) (t+4))) ec)),oB "list.__getitem__" [VR (n0+2),VI i ti] (t+3) (n+3) (VI ci u1) (rd:=[(n0+2,listO cs ec)]),oB "list_iterator.__next__" [VR (n0+3)] (t+0) (n+0) (VR dk) (rd:=[(dl,listO ds e)]) (w:=some (n0+3,itO dl ↑k,itO dl (↑k+1)))] [3,4,5,6,7,8,9] ([(n0+3,itO dl ((k:Int)+1)),(Lk n0 P q0 dl q1 ct q2 q3 q4 i ti q5 j tj q6 m tm),(n0+1,listO ks ek),(n0+2,listO (cs.set i.toNat (.int (ci+1) (t+4))) ec),(dl,listO ds e),(ct,listO cu e2),(Yl dk i ti j tj m tm ed)]):=sO
def GS:List Nat:=oC [Bf,dO 23 0x81020c183050a1410000083870e142820c18305]
def Bn:Out:=let xc:=(kept0 b1 b2 P n0 t0 dl ct ds cu e e2).res.callee;ev (bS b1 b2 P n t) 174 GS [{v:=VR dk,rd:=[4],w:=some (0,itO dl (↑k+1))},{v:=VI ci u1,rd:=[6]},{v:=Value.none,w:=some (6,listO (cs.set i.toNat (VI (ci+1) (t+4))) ec)},{v:=VI (ci+1) (t+4),rd:=[6]},{v:=VI cui u4,rd:=[8]},{v:=Value.bool true},{v:=VI ki u2,rd:=[5]},{v:=VI (ci+1) (t+4),rd:=[6]},{v:=Value.bool true},{v:=VI kj u3,rd:=[5]},{v:=Value.bool false}] xc (denF xc) [] 0 (Vj n0 dl k P q0 q1 ct q2 q3 q4 vi q5 vj q6 vm ks ek cs ec ds e cu e2 dk i ti j tj m tm ed) 0 0 [] []
theorem Fc:Seg (Bn b1 b2 P n0 t0 n t dl ct ds cu e e2 k ks cs ek ec dk i j m ti tj tm ed q0 q1 q2 q3 vi vj vm q4 q5 q6 ci ki kj cui u1 u2 u3 u4) (.again) ((kept0 b1 b2 P n0 t0 dl ct ds cu e e2).res.callee) 3 7 [oB "int.__le__" [VI m tm,VI kj u3] (t+7) (n+3) (Value.bool false),oB "list.__getitem__" [VR (n0+1),VI j tj] (t+7) (n+3) (VI kj u3) (rd:=[(n0+1,listO ks ek)]),oB "int.__eq__" [VI ki u2,VI (ci+1 - 1) (t+6)] (t+7) (n+3) (Value.bool true),oB "list.__getitem__" [VR (n0+2),VI i ti] (t+5) (n+3) (VI (ci+1) (t+4)) (rd:=[(n0+2,listO (cs.set i.toNat (VI (ci+1) (t+4))) ec)]),oB "list.__getitem__" [VR (n0+1),VI i ti] (t+5) (n+3) (VI ki u2) (rd:=[(n0+1,listO ks ek)]),oB "int.__le__" [VI (ci+1) (t+4),VI cui u4] (t+5) (n+3) (Value.bool true),oB "list.__getitem__" [VR ct,VI i ti] (t+5) (n+3) (VI cui u4) (rd:=[(ct,listO cu e2)]),oB "list.__getitem__" [VR (n0+2),VI i ti] (t+5) (n+3) (VI (ci+1) (t+4)) (rd:=[(n0+2,listO (cs.set i.toNat (VI (ci+1) (t+4))) ec)]),oB "list.__setitem__" [VR (n0+2),VI i ti,VI (ci+1) (t+4)] (t+5) (n+3) Value.none (w:=some (n0+2,listO cs ec,listO (cs.set i.toNat (VI (ci+1) (t+4))) ec)),oB "list.__getitem__" [VR (n0+2),VI i ti] (t+3) (n+3) (VI ci u1) (rd:=[(n0+2,listO cs ec)]),oB "list_iterator.__next__" [VR (n0+3)] (t+0) (n+0) (VR dk) (rd:=[(dl,listO ds e)]) (w:=some (n0+3,itO dl ↑k,itO dl (↑k+1)))] [3,4,5,6,7,8,9] ([(n0+3,itO dl ((k:Int)+1)),(Lk n0 P q0 dl q1 ct q2 q3 q4 i ti q5 j tj q6 m tm),(n0+1,listO ks ek),(n0+2,listO (cs.set i.toNat (.int (ci+1) (t+4))) ec),(dl,listO ds e),(ct,listO cu e2),(Yl dk i ti j tj m tm ed)]):=sO
def GR:List Nat:=oC [Bf,dO 34 0x1020c18285041c3870a141020c183050a1410000083870e142820c18305]
def Bm:Out:=let xc:=(kept0 b1 b2 P n0 t0 dl ct ds cu e e2).res.callee;ev (bS b1 b2 P n t) 192 GR [{v:=VR dk,rd:=[4],w:=some (0,itO dl (↑k+1))},{v:=VI ci u1,rd:=[6]},{v:=Value.none,w:=some (6,listO (cs.set i.toNat (VI (ci+1) (t+4))) ec)},{v:=VI (ci+1) (t+4),rd:=[6]},{v:=VI cui u4,rd:=[8]},{v:=Value.bool true},{v:=VI ki u2,rd:=[5]},{v:=VI (ci+1) (t+4),rd:=[6]},{v:=Value.bool true},{v:=VI kj u3,rd:=[5]},{v:=Value.bool true},{v:=VI (ci+1) (t+4),rd:=[6]},{v:=Value.none,w:=some (5,listO (ks.set i.toNat (VI (ci+1) (t+4))) ek)}] xc (denF xc) [] 0 (Vj n0 dl k P q0 q1 ct q2 q3 q4 vi q5 vj q6 vm ks ek cs ec ds e cu e2 dk i ti j tj m tm ed) 0 0 [] []
theorem Fb:Seg (Bm b1 b2 P n0 t0 n t dl ct ds cu e e2 k ks cs ek ec dk i j m ti tj tm ed q0 q1 q2 q3 vi vj vm q4 q5 q6 ci ki kj cui u1 u2 u3 u4) (.again) ((kept0 b1 b2 P n0 t0 dl ct ds cu e e2).res.callee) 3 7 [oB "list.__setitem__" [VR (n0+1),VI i ti,VI (ci+1) (t+4)] (t+7) (n+3) Value.none (w:=some (n0+1,listO ks ek,listO (ks.set i.toNat (VI (ci+1) (t+4))) ek)),oB "list.__getitem__" [VR (n0+2),VI i ti] (t+7) (n+3) (VI (ci+1) (t+4)) (rd:=[(n0+2,listO (cs.set i.toNat (VI (ci+1) (t+4))) ec)]),oB "int.__le__" [VI m tm,VI kj u3] (t+7) (n+3) (Value.bool true),oB "list.__getitem__" [VR (n0+1),VI j tj] (t+7) (n+3) (VI kj u3) (rd:=[(n0+1,listO ks ek)]),oB "int.__eq__" [VI ki u2,VI (ci+1 - 1) (t+6)] (t+7) (n+3) (Value.bool true),oB "list.__getitem__" [VR (n0+2),VI i ti] (t+5) (n+3) (VI (ci+1) (t+4)) (rd:=[(n0+2,listO (cs.set i.toNat (VI (ci+1) (t+4))) ec)]),oB "list.__getitem__" [VR (n0+1),VI i ti] (t+5) (n+3) (VI ki u2) (rd:=[(n0+1,listO ks ek)]),oB "int.__le__" [VI (ci+1) (t+4),VI cui u4] (t+5) (n+3) (Value.bool true),oB "list.__getitem__" [VR ct,VI i ti] (t+5) (n+3) (VI cui u4) (rd:=[(ct,listO cu e2)]),oB "list.__getitem__" [VR (n0+2),VI i ti] (t+5) (n+3) (VI (ci+1) (t+4)) (rd:=[(n0+2,listO (cs.set i.toNat (VI (ci+1) (t+4))) ec)]),oB "list.__setitem__" [VR (n0+2),VI i ti,VI (ci+1) (t+4)] (t+5) (n+3) Value.none (w:=some (n0+2,listO cs ec,listO (cs.set i.toNat (VI (ci+1) (t+4))) ec)),oB "list.__getitem__" [VR (n0+2),VI i ti] (t+3) (n+3) (VI ci u1) (rd:=[(n0+2,listO cs ec)]),oB "list_iterator.__next__" [VR (n0+3)] (t+0) (n+0) (VR dk) (rd:=[(dl,listO ds e)]) (w:=some (n0+3,itO dl ↑k,itO dl (↑k+1)))] [3,4,5,6,7,8,9] ([(n0+3,itO dl ((k:Int)+1)),(Lk n0 P q0 dl q1 ct q2 q3 q4 i ti q5 j tj q6 m tm),(n0+1,listO (ks.set i.toNat (.int (ci+1) (t+4))) ek),(n0+2,listO (cs.set i.toNat (.int (ci+1) (t+4))) ec),(dl,listO ds e),(ct,listO cu e2),(Yl dk i ti j tj m tm ed)]):=sO
end
end

section
variable(b1 b2:Bool)(P:Params)
def No:List Nat:=dO 11 0x8102080810004001
section
variable(n0 t0 n t:Nat)(dl ct:Addr)(ds cu:List Value)(e e2 q0 q1 q2 q3 q4 q5 q6:Nat)(vi vj vm a0 a1 a2 a3 a4:Value)
def TR:Out:=let xc:=(kept0 b1 b2 P n0 t0 dl ct [a0,a1,a2,a3] cu e e2).res.callee;ev (bS b1 b2 P n t) 23 No [] xc (denF xc) [] 0 [(n0+3,itO dl 4),(dl,listO [a0,a1,a2,a3] e)] 0 0 [] []
theorem FX:Ni (TR b1 b2 P n0 t0 n t dl ct cu e e2 a0 a1 a2 a3) 2 0 [] [2,3] ([(n0+3,GY 4),(dl,listO [a0,a1,a2,a3] e)]):=sO
def Nn:List Nat:=dO 11 0x8102080810004001
def TQ:Out:=let xc:=(kept0 b1 b2 P n0 t0 dl ct [a0,a1,a2,a3,a4] cu e e2).res.callee;ev (bS b1 b2 P n t) 23 Nn [] xc (denF xc) [] 0 [(n0+3,itO dl 5),(dl,listO [a0,a1,a2,a3,a4] e)] 0 0 [] []
theorem FW:Ni (TQ b1 b2 P n0 t0 n t dl ct cu e e2 a0 a1 a2 a3 a4) 2 0 [] [2,3] ([(n0+3,GY 5),(dl,listO [a0,a1,a2,a3,a4] e)]):=sO
def Km:List Nat:=[1]
def Lb:Out:=let xr:=(kept0 b1 b2 P n0 t0 dl ct ds cu e e2).res;ev (bS b1 b2 P n t) 9 Km [] xr.c (xr.k (.ok .next)) xr.K xr.d [(Ew n0 P q0 dl q1 ct q2 q3 q4 vi q5 vj q6 vm)] 0 0 [] []
theorem ME:Seg (Lb b1 b2 P n0 t0 n t dl ct ds cu e e2 q0 q1 q2 q3 q4 q5 q6 vi vj vm) (.flow (.ret (.ref (n0+1)))) (.call .none {}) 0 0 [] [0] ([(Ew n0 P q0 dl q1 ct q2 q3 q4 vi q5 vj q6 vm)]):=sO
end
end

structure Ints (vs:List Value) (xs:List Int):Prop where
 len:vs.length=xs.length
 at':∀(i:Nat) (x:Int),xs[i]? =some x->∃t,vs[i]? =some (Value.int x t)
theorem Ints.nil:Ints [] []:=⟨rfl,fun i x h=>by simp at h⟩
theorem Ints.cons{vs:List Value}{xs:List Int}{x:Int}{t:Nat}(h:Ints vs xs):Ints (.int x t::vs) (x::xs):=
 ⟨by simp [h.len],fun i y hy=>by
  cases i with
  | zero=>simp at hy;subst hy;exact ⟨t,rfl⟩
  | succ i=>simpa using h.at' i y (by simpa using hy)⟩
theorem Ints.set{vs:List Value}{xs:List Int}(h:Ints vs xs)(i:Nat)(x:Int)(t:Nat):Ints (vs.set i (.int x t)) (xs.set i x):=
 ⟨by simp [h.len],fun j y hy=>by
  rw [List.getElem?_set] at hy ⊢
  split at hy
  ·rename_i e;subst e
   split at hy
   ·rename_i hl;cases hy;rw [if_pos rfl,if_pos (by rw [h.len];exact hl)];exact ⟨t,rfl⟩
   ·cases hy
  ·rename_i e;rw [if_neg e];exact h.at' j y hy⟩
theorem Ints.get{vs:List Value}{xs:List Int}(h:Ints vs xs){i:Nat}(hi:i<xs.length):∃t,vs[i]? =some (Value.int (xs.getD i 0) t):=by
 refine h.at' i _ ?_;simp [List.getD_eq_getElem?_getD,hi]
structure DC where
 a:Addr
 i:Int
 j:Int
 m:Int
 ti:Nat
 tj:Nat
 tm:Nat
 ed:Nat
noncomputable def DC.cell(d:DC):Addr×Obj:=(d.a,listO [.int d.i d.ti,.int d.j d.tj,.int d.m d.tm] d.ed)
def DC.val(d:DC):Value:=.ref d.a
structure DC.Ok (d:DC):Prop where
 i0:0<=d.i
 i3:d.i<3
 j0:0<=d.j
 j3:d.j<3
abbrev D3:=Int×Int×Int
def DC.d(x:DC):D3:=(x.i,x.j,x.m)
noncomputable def keptStep(cut:List Int)(st:List Int×List Int)(d:D3):List Int×List Int:=
 let c:=st.2.getD d.1.toNat 0+1
 if c<=cut.getD d.1.toNat 0/\st.1.getD d.1.toNat 0=c - 1/\d.2.2<=st.1.getD d.2.1.toNat 0 then (st.1.set d.1.toNat c,st.2.set d.1.toNat c) else (st.1,st.2.set d.1.toNat c)
noncomputable def keptF(deeds:List D3)(cut:List Int):List Int:=(deeds.foldl (keptStep cut) ([0,0,0],[0,0,0])).1
theorem JP{cut:List Int}{st:List Int×List Int}{d:D3}:(keptStep cut st d).1.length=st.1.length/\(keptStep cut st d).2.length=st.2.length:=by
 unfold keptStep;dsimp only
 split<;>simp
theorem Xn{P:Params}{M:Model}:∀b∈([]:List Ob),b.Holds P M:=fun _ h=>nomatch h
theorem ob{P:Params}{M:Model}{b:Ob}{l:List Ob}(h:b.Holds P M)(hl:∀b∈l,b.Holds P M):∀c∈b::l,c.Holds P M:=List.forall_mem_cons.mpr ⟨h,hl⟩
noncomputable abbrev fK(P:Params)(n0:Nat)(dl ct:Addr)(q0 q1 q2 q3:Nat)(more:List DictEntry)(e:Nat):Obj:=
 frameO (kn1 P q0 (.ref dl)::kn2 P q1 (.ref ct)::Ay P q2 (.ref (n0+1))::Qo P q3 (.ref (n0+2))::more) e
noncomputable abbrev Lj(P:Params)(q4 q5 q6:Nat)(vi vj vm:Value):List DictEntry:=[kn5 P q4 vi,kn6 P q5 vj,kn7 P q6 vm]
section
variable{w:World}{A:Around}{g:Array GenState}{dr:Drawn}{os:OsState}{n0 t0:Nat}{dl ct:Addr}{ds cu:List Value}{e e2:Nat}{cut:List Int}{dcs:List DC}
abbrev GB n0 dl k(w:World) ct q0 q1 q2 q3 ks ek cs ec:=([(n0+3,itO dl k),(n0+0,fK w.params n0 dl ct q0 q1 q2 q3 [] 4),(n0+1,listO ks ek),(n0+2,listO cs ec)]:ZQ)
abbrev Vq n0(cs:List Value)(d:DC)(counts:List Int) tk ec:=((n0+2,listO (cs.set d.i.toNat (.int (counts.getD d.i.toNat 0+1) (tk+4))) ec):Xp)
theorem MD{R:Result->Shared->Prop}{h:Heap}{tk:Nat}{d:DC}{k:Nat}{ks cs:List Value}{ek ec:Nat}{kept counts:List Int}{q0 q1 q2 q3:Nat}
  (rm:Room 0 A)(hp:Prog (PP w) h)(hd:d∈dcs)(hok:d.Ok)(hk:ds[k]? =some d.val)(hcu:Ints cu cut)(hcl:cut.length=3)(Iks:Ints ks kept)(hkl:kept.length=3)(Ics:Ints cs counts)(hcc:counts.length=3) (H:Has h ((GB n0 dl k w ct q0 q1 q2 q3 ks ek cs ec)++((dl,listO ds e)::(ct,listO cu e2)::dcs.map DC.cell))) (Hn:∀h' tk' ks' cs' vi' vj' vm' q4' q5' q6',Prog (PP w) h'->Ext [n0+3,n0+0,n0+1,n0+2] h h'->Ints ks' (keptStep cut (kept,counts) d.d).1->Ints cs' (keptStep cut (kept,counts) d.d).2-> Has h' ([(n0+3,itO dl ((k:Int)+1)),(n0+0,fK w.params n0 dl ct q0 q1 q2 q3 (Lj w.params q4' q5' q6' vi' vj' vm') 7),(n0+1,listO ks' ek),(n0+2,listO cs' ec)]++((dl,listO ds e)::(ct,listO cu e2)::dcs.map DC.cell))-> codeAny (model pw w) A (kept0 (W1 w) (W2 w) w.params n0 t0 dl ct ds cu e e2).res.callee R ⟨h',g,dr,tk',os⟩): codeAny (model pw w) A (kept0 (W1 w) (W2 w) w.params n0 t0 dl ct ds cu e e2).res.callee R ⟨h,g,dr,tk,os⟩:=by
 have hw:=(JQ (W1 w) (W2 w) w.params n0 t0 dl ct ds cu e e2).wq;simp only [Prod.mk.injEq] at hw;have hi0:=hok.i0;have hi3:=hok.i3;have hj0:=hok.j0;have hj3:=hok.j3;obtain ⟨u1,hu1⟩:=Ics.get (i:=d.i.toNat) (by omega);obtain ⟨u2,hu2⟩:=Iks.get (i:=d.i.toNat) (by omega);obtain ⟨u3,hu3⟩:=Iks.get (i:=d.j.toNat) (by omega);obtain ⟨u4,hu4⟩:=hcu.get (i:=d.i.toNat) (by omega);have hro:∀p∈[(dl,listO ds e),(ct,listO cu e2),d.cell],p∈((dl,listO ds e)::(ct,listO cu e2)::dcs.map DC.cell):=by
  intro p hq;simp only [List.mem_cons,List.not_mem_nil,or_false] at hq;rcases hq with rfl | rfl | rfl
  ·exact .head _
  ·exact .tail _ (.head _)
  ·exact .tail _ (.tail _ (List.mem_map_of_mem hd))
 have HL:Has h ((GB n0 dl k w ct q0 q1 q2 q3 ks ek cs ec)++[(dl,listO ds e),(ct,listO cu e2),d.cell]):=
  Has.with1 (l:=(GB n0 dl k w ct q0 q1 q2 q3 ks ek cs ec)++[(dl,listO ds e),(ct,listO cu e2)]) H (List.mem_map_of_mem (f:=DC.cell) hd)
 have hdep:(ar true A [] (kept0 (W1 w) (W2 w) w.params n0 t0 dl ct ds cu e e2).res.callee).depth<=A.depth+0:=by
  show A.depth+(kept0 (W1 w) (W2 w) w.params n0 t0 dl ct ds cu e e2).res.callee.weight<=_;rw [YA,hw.1];exact Nat.le_refl _
 have hq:(kept0 (W1 w) (W2 w) w.params n0 t0 dl ct ds cu e e2).res.callee.quiet=true:=by rw [Xk];exact hw.2
 refine Xi ?_;have hb:d.i<2 ^ 63:=by omega
 have hbj:d.j<2 ^ 63:=by omega
 have hlc:d.i.toNat<cs.length:=by rw [Ics.len];omega
 have hlk:d.i.toNat<ks.length:=by rw [Iks.len];omega
 have go:∀{f:Nat} {O:List Nat} {RR:List Pr} {i:Nat} {obs:List Ob} {o:Out} {ks':List Value},o=ev ⟨pw,PP w,h.objs.size,tk,true⟩ f O RR (kept0 (W1 w) (W2 w) w.params n0 t0 dl ct ds cu e e2).res.callee (denF (kept0 (W1 w) (W2 w) w.params n0 t0 dl ct ds cu e e2).res.callee) [] 0 ((GB n0 dl k w ct q0 q1 q2 q3 ks ek cs ec)++[(dl,listO ds e),(ct,listO cu e2),d.cell]) 0 0 [] []->
   Seg o .again (kept0 (W1 w) (W2 w) w.params n0 t0 dl ct ds cu e e2).res.callee 3 i obs [3,4,5,6,7,8,9] ([(n0+3,itO dl ((k:Int)+1)),(n0+0,fK w.params n0 dl ct q0 q1 q2 q3 (Lj w.params (tk+0) (tk+1) (tk+2) (.int d.i d.ti) (.int d.j d.tj) (.int d.m d.tm)) 7),(n0+1,listO ks' ek),(Vq n0 cs d counts tk ec)]++[(dl,listO ds e),(ct,listO cu e2),d.cell])->
   (∀b∈obs,b.Holds (PP w) (model pw w))->Ints ks' (keptStep cut (kept,counts) d.d).1->Goes true (model pw w) A (qOf R) (eOf R) [] (kept0 (W1 w) (W2 w) w.params n0 t0 dl ct ds cu e e2).res.callee (denF (kept0 (W1 w) (W2 w) w.params n0 t0 dl ct ds cu e e2).res.callee) ⟨h,g,dr,tk,os⟩:=by
  intro f O RR i obs o ks' ho sg hobs I1;refine Zp rm hp HL hdep trivial ho sg hobs hq ?_;intro h' D';rw [Xt];obtain ⟨S1,S2⟩:=D'.step (ix:=[3,4,5,6,7,8,9]) (nw:=[]) (l1:=(GB n0 dl k w ct q0 q1 q2 q3 ks ek cs ec)) (l1':=[(n0+3,itO dl ((k:Int)+1)),(n0+0,fK w.params n0 dl ct q0 q1 q2 q3 (Lj w.params (tk+0) (tk+1) (tk+2) (.int d.i d.ti) (.int d.j d.tj) (.int d.m d.tm)) 7),(n0+1,listO ks' ek),(Vq n0 cs d counts tk ec)]) sg.pick (by decide) rfl H hro (fun _ hx=>(nomatch hx));refine Hn h' _ ks' _ _ _ _ _ _ _ (D'.toProg) S2 I1 ?_ S1;have:(keptStep cut (kept,counts) d.d).2=counts.set d.i.toNat (counts.getD d.i.toNat 0+1):=by
   unfold keptStep;dsimp only;split<;>rfl
  rw [this];exact Ics.set _ _ _
 have o1:=fun n t=>Ya (P:=PP w) (prog:=pw) (w:=w) (t:=t) (n:=n) (it:=n0+3) (l:=dl) (e:=e) hk;have o2:=fun n t=>Xj (P:=PP w) (prog:=pw) (w:=w) (t:=t) (n:=n) (l:=n0+2) (e:=ec) (tk:=d.ti) hi0 hb hu1;have o3:=fun n t=>X0 (P:=PP w) (prog:=pw) (w:=w) (t:=t) (n:=n) (l:=n0+2) (e:=ec) (tk:=d.ti) (v:=(.int (counts.getD d.i.toNat 0+1) (tk+4))) hi0 hb hlc;have hset:(cs.set d.i.toNat (.int (counts.getD d.i.toNat 0+1) (tk+4)))[d.i.toNat]? =some (.int (counts.getD d.i.toNat 0+1) (tk+4)):=by
  rw [List.getElem?_set_self];exact hlc
 have o4:=fun n t=>Xj (P:=PP w) (prog:=pw) (w:=w) (t:=t) (n:=n) (l:=n0+2) (e:=ec) (tk:=d.ti) hi0 hb hset;have o5:=fun n t=>Xj (P:=PP w) (prog:=pw) (w:=w) (t:=t) (n:=n) (l:=ct) (e:=e2) (tk:=d.ti) hi0 hb hu4;have o6:=fun n t=>Xj (P:=PP w) (prog:=pw) (w:=w) (t:=t) (n:=n) (l:=n0+1) (e:=ek) (tk:=d.ti) hi0 hb hu2;have o7:=fun n t=>Xj (P:=PP w) (prog:=pw) (w:=w) (t:=t) (n:=n) (l:=n0+1) (e:=ek) (tk:=d.tj) hj0 hbj hu3;have o8:=fun n t=>X0 (P:=PP w) (prog:=pw) (w:=w) (t:=t) (n:=n) (l:=n0+1) (e:=ek) (tk:=d.ti) (v:=(.int (counts.getD d.i.toNat 0+1) (tk+4))) hi0 hb hlk;have base:=fun n t n2 t2 n3 t3 n4 t4 n5 t5=>ob (o5 n t) (ob (o4 n2 t2) (ob (o3 n3 t3) (ob (o2 n4 t4) (ob (o1 n5 t5) Xn))))
 by_cases c1:counts.getD d.i.toNat 0+1<=cut.getD d.i.toNat 0
 ·by_cases c2:kept.getD d.i.toNat 0=counts.getD d.i.toNat 0+1 - 1
  ·by_cases c3:d.m<=kept.getD d.j.toNat 0
   ·refine go rfl (Fd (W1 w) (W2 w) w.params n0 t0 h.objs.size tk dl ct ds cu e e2 k ks cs ek ec d.a d.i d.j d.m d.ti d.tj d.tm d.ed q0 q1 q2 q3 (counts.getD d.i.toNat 0) (kept.getD d.i.toNat 0) (kept.getD d.j.toNat 0) (cut.getD d.i.toNat 0) u1 u2 u3 u4) ?_ ?_
    ·exact ob (o8 _ _) (ob (o4 _ _) (ob (ZK (decide_eq_true c3)) (ob (o7 _ _) (ob (yY (beq_iff_eq.mpr c2)) (ob (o4 _ _) (ob (o6 _ _) (ob (ZK (decide_eq_true c1)) (base _ _ _ _ _ _ _ _ _ _))))))))
    ·have:(keptStep cut (kept,counts) d.d).1=kept.set d.i.toNat (counts.getD d.i.toNat 0+1):=by
      unfold keptStep;dsimp only;rw [if_pos ⟨c1,c2,c3⟩];rfl
     rw [this];exact Iks.set _ _ _
   ·refine go rfl (Fe (W1 w) (W2 w) w.params n0 t0 h.objs.size tk dl ct ds cu e e2 k ks cs ek ec d.a d.i d.j d.m d.ti d.tj d.tm d.ed q0 q1 q2 q3 (counts.getD d.i.toNat 0) (kept.getD d.i.toNat 0) (kept.getD d.j.toNat 0) (cut.getD d.i.toNat 0) u1 u2 u3 u4) ?_ ?_
    ·exact ob (ZK (decide_eq_false c3)) (ob (o7 _ _) (ob (yY (beq_iff_eq.mpr c2)) (ob (o4 _ _) (ob (o6 _ _) (ob (ZK (decide_eq_true c1)) (base _ _ _ _ _ _ _ _ _ _))))))
    ·have:(keptStep cut (kept,counts) d.d).1=kept:=by
      unfold keptStep;dsimp only;rw [if_neg (fun x=>c3 x.2.2)]
     rw [this];exact Iks
  ·refine go rfl (FZ (W1 w) (W2 w) w.params n0 t0 h.objs.size tk dl ct ds cu e e2 k ks cs ek ec d.a d.i d.j d.m d.ti d.tj d.tm d.ed q0 q1 q2 q3 (counts.getD d.i.toNat 0) (kept.getD d.i.toNat 0) (kept.getD d.j.toNat 0) (cut.getD d.i.toNat 0) u1 u2 u3 u4) ?_ ?_
   ·exact ob (yY (beq_eq_false_iff_ne.mpr c2)) (ob (o4 _ _) (ob (o6 _ _) (ob (ZK (decide_eq_true c1)) (base _ _ _ _ _ _ _ _ _ _))))
   ·have:(keptStep cut (kept,counts) d.d).1=kept:=by
     unfold keptStep;dsimp only;rw [if_neg (fun x=>c2 x.2.1)]
    rw [this];exact Iks
 ·refine go rfl (MG (W1 w) (W2 w) w.params n0 t0 h.objs.size tk dl ct ds cu e e2 k ks cs ek ec d.a d.i d.j d.m d.ti d.tj d.tm d.ed q0 q1 q2 q3 (counts.getD d.i.toNat 0) (kept.getD d.i.toNat 0) (kept.getD d.j.toNat 0) (cut.getD d.i.toNat 0) u1 u2 u3 u4) ?_ ?_
  ·exact ob (ZK (decide_eq_false c1)) (base _ _ _ _ _ _ _ _ _ _)
  ·have:(keptStep cut (kept,counts) d.d).1=kept:=by
    unfold keptStep;dsimp only;rw [if_neg (fun x=>c1 x.1)]
   rw [this];exact Iks
abbrev Qw n0(w:World) dl ct q0 q1 q2 q3 q4 q5 q6 vi vj vm:=((n0+0,fK w.params n0 dl ct q0 q1 q2 q3 (Lj w.params q4 q5 q6 vi vj vm) 7):Xp)
abbrev GC n0 dl k(w:World) ct q0 q1 q2 q3 q4 q5 q6 vi vj vm ks ek cs ec:=([(n0+3,itO dl k),(Qw n0 w dl ct q0 q1 q2 q3 q4 q5 q6 vi vj vm),(n0+1,listO ks ek),(n0+2,listO cs ec)]:ZQ)
theorem MB{R:Result->Shared->Prop}{h:Heap}{tk:Nat}{d:DC}{k:Nat}{ks cs:List Value}{ek ec:Nat}{kept counts:List Int}{q0 q1 q2 q3:Nat}{q4 q5 q6:Nat}{vi vj vm:Value}
  (rm:Room 0 A)(hp:Prog (PP w) h)(hd:d∈dcs)(hok:d.Ok)(hk:ds[k]? =some d.val)(hcu:Ints cu cut)(hcl:cut.length=3)(Iks:Ints ks kept)(hkl:kept.length=3)(Ics:Ints cs counts)(hcc:counts.length=3) (H:Has h ((GC n0 dl k w ct q0 q1 q2 q3 q4 q5 q6 vi vj vm ks ek cs ec)++((dl,listO ds e)::(ct,listO cu e2)::dcs.map DC.cell))) (Hn:∀h' tk' ks' cs' vi' vj' vm',Prog (PP w) h'->Ext [n0+3,n0+0,n0+1,n0+2] h h'->Ints ks' (keptStep cut (kept,counts) d.d).1->Ints cs' (keptStep cut (kept,counts) d.d).2-> Has h' ([(n0+3,itO dl ((k:Int)+1)),(n0+0,fK w.params n0 dl ct q0 q1 q2 q3 (Lj w.params q4 q5 q6 vi' vj' vm') 7),(n0+1,listO ks' ek),(n0+2,listO cs' ec)]++((dl,listO ds e)::(ct,listO cu e2)::dcs.map DC.cell))-> codeAny (model pw w) A (kept0 (W1 w) (W2 w) w.params n0 t0 dl ct ds cu e e2).res.callee R ⟨h',g,dr,tk',os⟩): codeAny (model pw w) A (kept0 (W1 w) (W2 w) w.params n0 t0 dl ct ds cu e e2).res.callee R ⟨h,g,dr,tk,os⟩:=by
 have hw:=(JQ (W1 w) (W2 w) w.params n0 t0 dl ct ds cu e e2).wq;simp only [Prod.mk.injEq] at hw;have hi0:=hok.i0;have hi3:=hok.i3;have hj0:=hok.j0;have hj3:=hok.j3;obtain ⟨u1,hu1⟩:=Ics.get (i:=d.i.toNat) (by omega);obtain ⟨u2,hu2⟩:=Iks.get (i:=d.i.toNat) (by omega);obtain ⟨u3,hu3⟩:=Iks.get (i:=d.j.toNat) (by omega);obtain ⟨u4,hu4⟩:=hcu.get (i:=d.i.toNat) (by omega);have hro:∀p∈[(dl,listO ds e),(ct,listO cu e2),d.cell],p∈((dl,listO ds e)::(ct,listO cu e2)::dcs.map DC.cell):=by
  intro p hq;simp only [List.mem_cons,List.not_mem_nil,or_false] at hq;rcases hq with rfl | rfl | rfl
  ·exact .head _
  ·exact .tail _ (.head _)
  ·exact .tail _ (.tail _ (List.mem_map_of_mem hd))
 have HL:Has h ((GC n0 dl k w ct q0 q1 q2 q3 q4 q5 q6 vi vj vm ks ek cs ec)++[(dl,listO ds e),(ct,listO cu e2),d.cell]):=
  Has.with1 (l:=(GC n0 dl k w ct q0 q1 q2 q3 q4 q5 q6 vi vj vm ks ek cs ec)++[(dl,listO ds e),(ct,listO cu e2)]) H (List.mem_map_of_mem (f:=DC.cell) hd)
 have hdep:(ar true A [] (kept0 (W1 w) (W2 w) w.params n0 t0 dl ct ds cu e e2).res.callee).depth<=A.depth+0:=by
  show A.depth+(kept0 (W1 w) (W2 w) w.params n0 t0 dl ct ds cu e e2).res.callee.weight<=_;rw [YA,hw.1];exact Nat.le_refl _
 have hq:(kept0 (W1 w) (W2 w) w.params n0 t0 dl ct ds cu e e2).res.callee.quiet=true:=by rw [Xk];exact hw.2
 refine Xi ?_;have hb:d.i<2 ^ 63:=by omega
 have hbj:d.j<2 ^ 63:=by omega
 have hlc:d.i.toNat<cs.length:=by rw [Ics.len];omega
 have hlk:d.i.toNat<ks.length:=by rw [Iks.len];omega
 have go:∀{f:Nat} {O:List Nat} {RR:List Pr} {i:Nat} {obs:List Ob} {o:Out} {ks':List Value},o=ev ⟨pw,PP w,h.objs.size,tk,true⟩ f O RR (kept0 (W1 w) (W2 w) w.params n0 t0 dl ct ds cu e e2).res.callee (denF (kept0 (W1 w) (W2 w) w.params n0 t0 dl ct ds cu e e2).res.callee) [] 0 ((GC n0 dl k w ct q0 q1 q2 q3 q4 q5 q6 vi vj vm ks ek cs ec)++[(dl,listO ds e),(ct,listO cu e2),d.cell]) 0 0 [] []->
   Seg o .again (kept0 (W1 w) (W2 w) w.params n0 t0 dl ct ds cu e e2).res.callee 3 i obs [3,4,5,6,7,8,9] ([(n0+3,itO dl ((k:Int)+1)),(n0+0,fK w.params n0 dl ct q0 q1 q2 q3 (Lj w.params q4 q5 q6 (.int d.i d.ti) (.int d.j d.tj) (.int d.m d.tm)) 7),(n0+1,listO ks' ek),(Vq n0 cs d counts tk ec)]++[(dl,listO ds e),(ct,listO cu e2),d.cell])->
   (∀b∈obs,b.Holds (PP w) (model pw w))->Ints ks' (keptStep cut (kept,counts) d.d).1->Goes true (model pw w) A (qOf R) (eOf R) [] (kept0 (W1 w) (W2 w) w.params n0 t0 dl ct ds cu e e2).res.callee (denF (kept0 (W1 w) (W2 w) w.params n0 t0 dl ct ds cu e e2).res.callee) ⟨h,g,dr,tk,os⟩:=by
  intro f O RR i obs o ks' ho sg hobs I1;refine Zp rm hp HL hdep trivial ho sg hobs hq ?_;intro h' D';rw [Xt];obtain ⟨S1,S2⟩:=D'.step (ix:=[3,4,5,6,7,8,9]) (nw:=[]) (l1:=(GC n0 dl k w ct q0 q1 q2 q3 q4 q5 q6 vi vj vm ks ek cs ec)) (l1':=[(n0+3,itO dl ((k:Int)+1)),(n0+0,fK w.params n0 dl ct q0 q1 q2 q3 (Lj w.params q4 q5 q6 (.int d.i d.ti) (.int d.j d.tj) (.int d.m d.tm)) 7),(n0+1,listO ks' ek),(Vq n0 cs d counts tk ec)]) sg.pick (by decide) rfl H hro (fun _ hx=>(nomatch hx));refine Hn h' _ ks' _ _ _ _ (D'.toProg) S2 I1 ?_ S1;have:(keptStep cut (kept,counts) d.d).2=counts.set d.i.toNat (counts.getD d.i.toNat 0+1):=by
   unfold keptStep;dsimp only;split<;>rfl
  rw [this];exact Ics.set _ _ _
 have o1:=fun n t=>Ya (P:=PP w) (prog:=pw) (w:=w) (t:=t) (n:=n) (it:=n0+3) (l:=dl) (e:=e) hk;have o2:=fun n t=>Xj (P:=PP w) (prog:=pw) (w:=w) (t:=t) (n:=n) (l:=n0+2) (e:=ec) (tk:=d.ti) hi0 hb hu1;have o3:=fun n t=>X0 (P:=PP w) (prog:=pw) (w:=w) (t:=t) (n:=n) (l:=n0+2) (e:=ec) (tk:=d.ti) (v:=(.int (counts.getD d.i.toNat 0+1) (tk+4))) hi0 hb hlc;have hset:(cs.set d.i.toNat (.int (counts.getD d.i.toNat 0+1) (tk+4)))[d.i.toNat]? =some (.int (counts.getD d.i.toNat 0+1) (tk+4)):=by
  rw [List.getElem?_set_self];exact hlc
 have o4:=fun n t=>Xj (P:=PP w) (prog:=pw) (w:=w) (t:=t) (n:=n) (l:=n0+2) (e:=ec) (tk:=d.ti) hi0 hb hset;have o5:=fun n t=>Xj (P:=PP w) (prog:=pw) (w:=w) (t:=t) (n:=n) (l:=ct) (e:=e2) (tk:=d.ti) hi0 hb hu4;have o6:=fun n t=>Xj (P:=PP w) (prog:=pw) (w:=w) (t:=t) (n:=n) (l:=n0+1) (e:=ek) (tk:=d.ti) hi0 hb hu2;have o7:=fun n t=>Xj (P:=PP w) (prog:=pw) (w:=w) (t:=t) (n:=n) (l:=n0+1) (e:=ek) (tk:=d.tj) hj0 hbj hu3;have o8:=fun n t=>X0 (P:=PP w) (prog:=pw) (w:=w) (t:=t) (n:=n) (l:=n0+1) (e:=ek) (tk:=d.ti) (v:=(.int (counts.getD d.i.toNat 0+1) (tk+4))) hi0 hb hlk;have base:=fun n t n2 t2 n3 t3 n4 t4 n5 t5=>ob (o5 n t) (ob (o4 n2 t2) (ob (o3 n3 t3) (ob (o2 n4 t4) (ob (o1 n5 t5) Xn))))
 by_cases c1:counts.getD d.i.toNat 0+1<=cut.getD d.i.toNat 0
 ·by_cases c2:kept.getD d.i.toNat 0=counts.getD d.i.toNat 0+1 - 1
  ·by_cases c3:d.m<=kept.getD d.j.toNat 0
   ·refine go rfl (Fb (W1 w) (W2 w) w.params n0 t0 h.objs.size tk dl ct ds cu e e2 k ks cs ek ec d.a d.i d.j d.m d.ti d.tj d.tm d.ed q0 q1 q2 q3 vi vj vm q4 q5 q6 (counts.getD d.i.toNat 0) (kept.getD d.i.toNat 0) (kept.getD d.j.toNat 0) (cut.getD d.i.toNat 0) u1 u2 u3 u4) ?_ ?_
    ·exact ob (o8 _ _) (ob (o4 _ _) (ob (ZK (decide_eq_true c3)) (ob (o7 _ _) (ob (yY (beq_iff_eq.mpr c2)) (ob (o4 _ _) (ob (o6 _ _) (ob (ZK (decide_eq_true c1)) (base _ _ _ _ _ _ _ _ _ _))))))))
    ·have:(keptStep cut (kept,counts) d.d).1=kept.set d.i.toNat (counts.getD d.i.toNat 0+1):=by
      unfold keptStep;dsimp only;rw [if_pos ⟨c1,c2,c3⟩];rfl
     rw [this];exact Iks.set _ _ _
   ·refine go rfl (Fc (W1 w) (W2 w) w.params n0 t0 h.objs.size tk dl ct ds cu e e2 k ks cs ek ec d.a d.i d.j d.m d.ti d.tj d.tm d.ed q0 q1 q2 q3 vi vj vm q4 q5 q6 (counts.getD d.i.toNat 0) (kept.getD d.i.toNat 0) (kept.getD d.j.toNat 0) (cut.getD d.i.toNat 0) u1 u2 u3 u4) ?_ ?_
    ·exact ob (ZK (decide_eq_false c3)) (ob (o7 _ _) (ob (yY (beq_iff_eq.mpr c2)) (ob (o4 _ _) (ob (o6 _ _) (ob (ZK (decide_eq_true c1)) (base _ _ _ _ _ _ _ _ _ _))))))
    ·have:(keptStep cut (kept,counts) d.d).1=kept:=by
      unfold keptStep;dsimp only;rw [if_neg (fun x=>c3 x.2.2)]
     rw [this];exact Iks
  ·refine go rfl (FY (W1 w) (W2 w) w.params n0 t0 h.objs.size tk dl ct ds cu e e2 k ks cs ek ec d.a d.i d.j d.m d.ti d.tj d.tm d.ed q0 q1 q2 q3 vi vj vm q4 q5 q6 (counts.getD d.i.toNat 0) (kept.getD d.i.toNat 0) (kept.getD d.j.toNat 0) (cut.getD d.i.toNat 0) u1 u2 u3 u4) ?_ ?_
   ·exact ob (yY (beq_eq_false_iff_ne.mpr c2)) (ob (o4 _ _) (ob (o6 _ _) (ob (ZK (decide_eq_true c1)) (base _ _ _ _ _ _ _ _ _ _))))
   ·have:(keptStep cut (kept,counts) d.d).1=kept:=by
     unfold keptStep;dsimp only;rw [if_neg (fun x=>c2 x.2.1)]
    rw [this];exact Iks
 ·refine go rfl (MF (W1 w) (W2 w) w.params n0 t0 h.objs.size tk dl ct ds cu e e2 k ks cs ek ec d.a d.i d.j d.m d.ti d.tj d.tm d.ed q0 q1 q2 q3 vi vj vm q4 q5 q6 (counts.getD d.i.toNat 0) (kept.getD d.i.toNat 0) (kept.getD d.j.toNat 0) (cut.getD d.i.toNat 0) u1 u2 u3 u4) ?_ ?_
  ·exact ob (ZK (decide_eq_false c1)) (base _ _ _ _ _ _ _ _ _ _)
  ·have:(keptStep cut (kept,counts) d.d).1=kept:=by
    unfold keptStep;dsimp only;rw [if_neg (fun x=>c1 x.1)]
   rw [this];exact Iks
end

theorem FS{α:Type}{l:List α}{n:Nat}(h:l.length=n+1):∃a t,l=a::t/\t.length=n:=by
 cases l with
 | nil=>cases h
 | cons a t=>exact ⟨a,t,rfl,Nat.succ.inj h⟩
theorem Co{α:Type}{l:List α}(h:l.length=1):∃a,l=[a]:=by
 obtain ⟨a,t,rfl,e⟩:=FS h;exact ⟨a,by rw [List.length_eq_zero_iff.mp e]⟩
theorem Cn{α:Type}{l:List α}(h:l.length=2):∃a b,l=[a,b]:=by
 obtain ⟨a,t,rfl,e⟩:=FS h;obtain ⟨b,rfl⟩:=Co e;exact ⟨a,b,rfl⟩
theorem Eb{α:Type}{l:List α}(h:l.length=3):∃a b c,l=[a,b,c]:=by
 obtain ⟨a,t,rfl,e⟩:=FS h;obtain ⟨b,c,rfl⟩:=Cn e;exact ⟨a,b,c,rfl⟩
theorem Mz{α:Type}{l:List α}(h:l.length=4):∃a b c d,l=[a,b,c,d]:=by
 obtain ⟨a,t,rfl,e⟩:=FS h;obtain ⟨b,c,d,rfl⟩:=Eb e;exact ⟨a,b,c,d,rfl⟩
theorem Bi{α:Type}{l:List α}(h:l.length=5):∃a b c d e,l=[a,b,c,d,e]:=by
 obtain ⟨a,t,rfl,e⟩:=FS h;obtain ⟨b,c,d,f,rfl⟩:=Mz e;exact ⟨a,b,c,d,f,rfl⟩
theorem Yd(f:Value)(a:Args):(Code.call f a).weight=0:=rfl
section
variable{w:World}{A:Around}{g:Array GenState}{dr:Drawn}{os:OsState}{n0 t0:Nat}{dl ct:Addr}{ds cu:List Value}{e e2:Nat}{cut:List Int}{dcs:List DC}
theorem TP{R:Result->Shared->Prop}{h:Heap}{tk:Nat}{E:List (Addr×Obj)}(rm:Room 0 A)(hp:Prog (PP w) h)(hl:ds.length=4\/ds.length=5) (H:Has h ([(n0+3,itO dl ds.length)]++((dl,listO ds e)::E))) (Hn:∀h' tk',Prog (PP w) h'->Ext [n0+3] h h'->Has h' ((dl,listO ds e)::E)->R (.ok .next) ⟨h',g,dr,tk',os⟩): codeAny (model pw w) A (kept0 (W1 w) (W2 w) w.params n0 t0 dl ct ds cu e e2).res.callee R ⟨h,g,dr,tk,os⟩:=by
 have hw:=(JQ (W1 w) (W2 w) w.params n0 t0 dl ct ds cu e e2).wq;simp only [Prod.mk.injEq] at hw;have hdep:(ar true A [] (kept0 (W1 w) (W2 w) w.params n0 t0 dl ct ds cu e e2).res.callee).depth<=A.depth+0:=by
  show A.depth+(kept0 (W1 w) (W2 w) w.params n0 t0 dl ct ds cu e e2).res.callee.weight<=_;rw [YA,hw.1];exact Nat.le_refl _
 refine Xi ?_;have HL:Has h ([(n0+3,itO dl ds.length)]++[(dl,listO ds e)]):=H.with1 (.head _);have hro:∀p∈[(dl,listO ds e)],p∈(dl,listO ds e)::E:=fun p hq=>by rw [List.mem_singleton.mp hq];exact .head _
 rcases hl with hl | hl
 ·rw [hl] at H HL;obtain ⟨a0,a1,a2,a3,rfl⟩:=Mz hl;exact Yo (FX ..) (nw:=[]) (l1':=[_]) rfl rfl Xn rm hp H HL hro hdep trivial (by decide) rfl (fun _ hx=>(nomatch hx))
   fun h' hp' S1 S2=>Hn h' _ hp' S2 (Has.right (l:=[_]) S1)
 ·rw [hl] at H HL;obtain ⟨a0,a1,a2,a3,a4,rfl⟩:=Bi hl;exact Yo (FW ..) (nw:=[]) (l1':=[_]) rfl rfl Xn rm hp H HL hro hdep trivial (by decide) rfl (fun _ hx=>(nomatch hx))
   fun h' hp' S1 S2=>Hn h' _ hp' S2 (Has.right (l:=[_]) S1)
theorem Qp{R:Result->Shared->Prop}(rm:Room 0 A)(hds:ds=dcs.map DC.val)(hok:∀d∈dcs,d.Ok)(hl:ds.length=4\/ds.length=5)(hcu:Ints cu cut)(hcl:cut.length=3):
  ∀(todo done:List DC) {h:Heap} {tk:Nat} {ks cs:List Value} {ek ec:Nat} {kept counts:List Int} {q0 q1 q2 q3 q4 q5 q6:Nat} {vi vj vm:Value},dcs=done++todo->Prog (PP w) h->
   Ints ks kept->kept.length=3->Ints cs counts->counts.length=3-> Has h ([(n0+3,itO dl done.length),(Qw n0 w dl ct q0 q1 q2 q3 q4 q5 q6 vi vj vm),(n0+1,listO ks ek),(n0+2,listO cs ec)]++((dl,listO ds e)::(ct,listO cu e2)::dcs.map DC.cell))->
   (∀h' tk' ks' vi' vj' vm',Prog (PP w) h'->Ext [n0+3,n0+0,n0+1,n0+2] h h'->Ints ks' ((todo.map DC.d).foldl (keptStep cut) (kept,counts)).1-> Has h' [(n0+0,fK w.params n0 dl ct q0 q1 q2 q3 (Lj w.params q4 q5 q6 vi' vj' vm') 7),(n0+1,listO ks' ek)]->R (.ok .next) ⟨h',g,dr,tk',os⟩)-> codeAny (model pw w) A (kept0 (W1 w) (W2 w) w.params n0 t0 dl ct ds cu e e2).res.callee R ⟨h,g,dr,tk,os⟩
 | [],done,h,tk,ks,cs,ek,ec,kept,counts,q0,q1,q2,q3,q4,q5,q6,vi,vj,vm=>by
  intro hdc hp I1 hk I2 hc H Hn;have hlen:done.length=ds.length:=by rw [hds,List.length_map,hdc,List.append_nil]
  rw [hlen] at H;have H2:Has h ([(n0+3,itO dl ds.length)]++((dl,listO ds e)::((ct,listO cu e2)::dcs.map DC.cell++[(Qw n0 w dl ct q0 q1 q2 q3 q4 q5 q6 vi vj vm),(n0+1,listO ks ek),(n0+2,listO cs ec)]))):=by
   refine H.perm ?_;rw [show ([(n0+3,itO dl ds.length),(Qw n0 w dl ct q0 q1 q2 q3 q4 q5 q6 vi vj vm),(n0+1,listO ks ek),(n0+2,listO cs ec)]++((dl,listO ds e)::(ct,listO cu e2)::dcs.map DC.cell))=[(n0+3,itO dl ds.length)]++([(Qw n0 w dl ct q0 q1 q2 q3 q4 q5 q6 vi vj vm),(n0+1,listO ks ek),(n0+2,listO cs ec)]++((dl,listO ds e)::(ct,listO cu e2)::dcs.map DC.cell)) from rfl];exact List.Perm.append_left _ List.perm_append_comm
  refine TP rm hp hl H2 fun h' tk' hp' X S=>?_;refine Hn h' tk' ks vi vj vm hp' ⟨X.size,fun b o e hb=>X.keep b o e fun hm=>hb ?_⟩ I1 ?_
  ·rw [List.mem_singleton.mp hm];exact .head _
  ·have S3:Has h' ([(Qw n0 w dl ct q0 q1 q2 q3 q4 q5 q6 vi vj vm),(n0+1,listO ks ek),(n0+2,listO cs ec)]):=Has.right (l:=(dl,listO ds e)::(ct,listO cu e2)::dcs.map DC.cell) S;exact S3.pick [0,1] rfl
 | d::todo,done,h,tk,ks,cs,ek,ec,kept,counts,q0,q1,q2,q3,q4,q5,q6,vi,vj,vm=>by
  intro hdc hp I1 hk I2 hc H Hn;have hm:d∈dcs:=by rw [hdc];exact List.mem_append_right _ (.head _)
  have hkk:ds[done.length]? =some d.val:=by rw [hds,hdc,List.map_append,List.getElem?_append_right (by simp)];simp
  refine MB rm hp hm (hok d hm) hkk hcu hcl I1 hk I2 hc H fun h' tk' ks' cs' vi' vj' vm' hp' X I1' I2' H'=>?_;have hL:=JP (cut:=cut) (st:=(kept,counts)) (d:=d.d);have H'':Has h' ([(n0+3,itO dl (done++[d]).length),(n0+0,fK w.params n0 dl ct q0 q1 q2 q3 (Lj w.params q4 q5 q6 vi' vj' vm') 7),(n0+1,listO ks' ek),(n0+2,listO cs' ec)]++((dl,listO ds e)::(ct,listO cu e2)::dcs.map DC.cell)):=by
   rw [List.length_append,List.length_singleton];exact H'
  refine Qp rm hds hok hl hcu hcl todo (done++[d]) (by rw [hdc,List.append_assoc];rfl) hp' I1' (hL.1.trans hk) I2' (hL.2.trans hc) H'' fun h'' tk'' ks'' vi'' vj'' vm'' hp'' X' I'' S=>?_;exact Hn h'' tk'' ks'' vi'' vj'' vm'' hp'' (X.trans X' fun a ha=>.inl ha) I'' S
end

theorem Ints.zero3(a b c:Nat):Ints [.int 0 a,.int 0 b,.int 0 c] [0,0,0]:=.cons (.cons (.cons .nil))
theorem Has.mem1{h:Heap}{l:List (Addr×Obj)}(H:Has h l){p:Addr×Obj}(hp:p∈l):Has h [p]:=Has.with1 (l:=[]) H hp
section
variable{w:World}{A:Around}{g:Array GenState}{dr:Drawn}{os:OsState}{dl ct:Addr}{ds cu:List Value}{e e2:Nat}{cut:List Int}{dcs:List DC}
abbrev SS(h:Heap) tk:=((h.objs.size+2,listO [.int 0 (tk+6),.int 0 (tk+7),.int 0 (tk+8)] 0):Xp)
abbrev SR(h:Heap) tk:=((h.objs.size+1,listO [.int 0 (tk+2),.int 0 (tk+3),.int 0 (tk+4)] 0):Xp)
theorem Bl{R:Result->Shared->Prop}{h:Heap}{tk:Nat}(rm:Room 20 A)(hp:Prog (PP w) h)(hds:ds=dcs.map DC.val)(hok:∀d∈dcs,d.Ok)(hl:ds.length=4\/ds.length=5)(hcu:Ints cu cut)(hcl:cut.length=3) (H:Has h ((dl,listO ds e)::(ct,listO cu e2)::dcs.map DC.cell)) (Hn:∀h' tk' r vs er,Prog (PP w) h'->Ext [] h h'->h.objs.size<=r->Has h' [(r,listO vs er)]->Ints vs (keptF (dcs.map DC.d) cut)->R (.ok (.ret (.ref r))) ⟨h',g,dr,tk',os⟩): codeAny (model pw w) A (.call (.ref 254) ⟨[.ref dl,.ref ct],[]⟩) R ⟨h,g,dr,tk,os⟩:=by
 have hne:∃d rest,dcs=d::rest:=by
  cases dcs with
  | nil=>subst hds;rcases hl with x | x<;>cases x
  | cons d rest=>exact ⟨d,rest,rfl⟩
 obtain ⟨d,rest,hdc⟩:=hne;have hm:d∈dcs:=by rw [hdc];exact .head _
 have hkk:ds[0]? =some d.val:=by rw [hds,hdc];rfl
 have hro:∀p∈[(dl,listO ds e),(ct,listO cu e2)],p∈((dl,listO ds e)::(ct,listO cu e2)::dcs.map DC.cell):=by
  intro p hq;simp only [List.mem_cons,List.not_mem_nil,or_false] at hq;rcases hq with rfl | rfl
  ·exact .head _
  ·exact .tail _ (.head _)
 refine XG (Nat.le_trans (lar) rm.d) (by rw [Yd];exact Nat.zero_le _) ?_;refine yr (k:=0) (nw:=[(h.objs.size+3,itO dl 0),(SS h tk),(SR h tk),(h.objs.size+0,fK w.params h.objs.size dl ct (tk+0) (tk+1) (tk+5) (tk+9) [] 4)])
  (l1:=[]) (l1':=[]) (ro:=[(dl,listO ds e),(ct,listO cu e2)]) (Ev:=(dl,listO ds e)::(ct,listO cu e2)::dcs.map DC.cell) (JQ ..).toSeg rfl rfl Xn rm hp H (H.pick [0,1] rfl) hro (Nat.le_refl _) trivial (by decide) rfl ?_ ?_
 ·intro p hq;simp only [List.mem_cons,List.not_mem_nil,or_false] at hq;rcases hq with rfl | rfl | rfl | rfl<;>exact lar
 intro h1 hp1 S1 X1 _ k1 k2 k3;have S1':Has h1 ([(h.objs.size+3,itO dl (0:Nat)),(h.objs.size+0,fK w.params h.objs.size dl ct (tk+0) (tk+1) (tk+5) (tk+9) [] 4),(SR h tk),(SS h tk)]++((dl,listO ds e)::(ct,listO cu e2)::dcs.map DC.cell)):=by
  refine S1.perm ?_;refine List.Perm.append_right _ ?_;refine List.Perm.cons _ ?_;exact (List.Perm.swap _ _ _).trans ((List.Perm.cons _ (List.Perm.swap _ _ _)).trans (List.Perm.swap _ _ _)) |>.trans (List.Perm.cons _ (List.Perm.refl _))
 refine MD k3 hp1 hm (hok d hm) hkk hcu hcl (Ints.zero3 _ _ _) rfl (Ints.zero3 _ _ _) rfl S1' ?_;intro h2 tk2 ks2 cs2 vi2 vj2 vm2 q4 q5 q6 hp2 X2 I2 J2 S2;have hL:=JP (cut:=cut) (st:=([0,0,0],[0,0,0])) (d:=d.d);refine Qp k3 hds hok hl hcu hcl rest [d] hdc hp2 I2 hL.1 J2 hL.2 S2 ?_;intro h3 tk3 ks3 vi3 vj3 vm3 hp3 X3 I3 S3;have hI:Ints ks3 (keptF (dcs.map DC.d) cut):=by rw [hdc];exact I3
 refine Yo (k:=20) (nw:=[]) (l1:=[]) (l1':=[]) (ME ..) rfl rfl Xn rm hp3 S3 (S3.pick [0] rfl) ?_ k2 k1 (by decide) rfl (fun _ hx=>(nomatch hx)) ?_
 ·intro p hq;rw [List.mem_singleton.mp hq];exact .head _
 intro h4 hp4 S4 X4;refine Hn h4 _ (h.objs.size+1) ks3 0 hp4 ?_ (lar) (S4.mem1 (.tail _ (.head _))) hI;have hb:∀a∈[h.objs.size+3,h.objs.size+0,h.objs.size+1,h.objs.size+2],a∈([]:List Addr)\/h.objs.size<=a:=by
  intro a ha;simp only [List.mem_cons,List.not_mem_nil,or_false] at ha;rcases ha with rfl | rfl | rfl | rfl<;>exact .inr (lar)
 exact ((X1.trans X2 hb).trans X3 hb).trans X4 (fun a ha=>nomatch ha)
end

section
variable{prog:Program}{w:World}{A:Around}{R:Result->Shared->Prop}{s:Shared}
theorem Yb{T:String}{name:Str}{id:String}{b:Builtin}{self:Value}{rest:List Value}{m:Made}(slot:Slot T name id)(hT:s.TypeIs self T)(entry:entryFor table id=some b)(ha:argsOk id ⟨self::rest,[]⟩)
  (g:Gives (b ⟨self::rest,[]⟩) m)(h:m.post (fun v s'=>R (.ok (.ret v)) s') s):codeAny (model prog w) A (.call (.builtin id) ⟨self::rest,[]⟩) R s:=codeAny_call_builtin slot.plain entry (slot.check _ _ _ _ _ _ _ _ hT ha (g prog w A R s h))
end
section
variable{P:Params}{prog:Program}{w:World}{t n:Nat}{r:Bool}{x y z:Str}{tx ty:Nat}
theorem HY(h:placed x (fun i _=>Unicode.lowerAt x.cps i)=y.cps)(hl:y.length<=sizeLine):Ob.Holds P (model prog w) (oB "str.lower" [.str x tx] t n (.str y t) (di:=1)):=by
 intro A R s _ _ _ ht _ _ hR;obtain rfl:s.toks=t:=ht;have e:(⟨placed x (fun i _=>Unicode.lowerAt x.cps i)⟩:Str)=y:=by rw [h]
 refine Yb F.slot_str_lower (typeIs_str s x tx) F.entry_str_lower (F.args_str_lower_1 _) (gives_str_lower x tx ?_) ?_
 ·rw [h];simp only [Builtin.Str.tooLong,decide_eq_false_iff_not];exact Nat.not_lt.mpr hl
 ·rw [e];refine ⟨hl,?_⟩;exact hR
theorem Qd(h:(x.cps.toList==y.cps.toList)=r):Ob.Holds P (model prog w) (oB "str.__eq__" [.str x tx,.str y ty] t n (.bool r)):=by
 intro A R s _ _ _ ht _ _ hR;rw [Yg ht,←h] at hR;exact YD F.slot_str_eq (typeIs_str s x tx) F.entry_str_eq (F.args_str_eq_2 _ _) (gives_str_eq x y tx ty) hR
theorem JD(h:(x.cps.toList != y.cps.toList)=r):Ob.Holds P (model prog w) (oB "str.__ne__" [.str x tx,.str y ty] t n (.bool r)):=by
 intro A R s _ _ _ ht _ _ hR;rw [Yg ht,←h] at hR;exact YD F.slot_str_ne (typeIs_str s x tx) F.entry_str_ne (F.args_str_ne_2 _ _) (gives_str_ne x y tx ty) hR
theorem HV(h:stripSame y.cps.contains true true x=false)(h2:PySem.stripped y.cps.contains true true x=z)(hl:z.length<=sizeLine):Ob.Holds P (model prog w) (oB "str.strip" [.str x tx,.str y ty] t n (.str z t) (di:=1)):=by
 intro A R s _ _ _ ht _ _ hR;obtain rfl:s.toks=t:=ht;refine Yb F.slot_str_strip (typeIs_str s x tx) F.entry_str_strip (F.args_str_strip_2 _ _) (gives_str_strip_chars x y tx ty) ?_;rw [h,h2];refine ⟨hl,?_⟩;exact hR
theorem HZ{k:Int}(h:((Builtin.Str.occurrences x y 0 x.length (x.length+1)).length:Int)=k):Ob.Holds P (model prog w) (oB "str.count" [.str x tx,.str y ty] t n (.int k t) (di:=1)):=by
 intro A R s _ _ _ ht _ _ hR;obtain rfl:s.toks=t:=ht;refine Yb F.slot_str_count (typeIs_str s x tx) F.entry_str_count (F.args_str_count_2 _ _) (gives_str_count x y tx ty) ?_;rw [h];show R (.ok (.ret (.int k s.toks))) {s with toks:=s.toks+1};exact hR
theorem Cm(hx:(x.length==0)=false)(hy:(y.length==0)=false)(h:x++y=z)(hl:z.length<=sizeLine):Ob.Holds P (model prog w) (oB "str.__add__" [.str x tx,.str y ty] t n (.str z t) (di:=1)):=by
 intro A R s _ _ _ ht _ _ hR;obtain rfl:s.toks=t:=ht;refine Yb F.slot_str_add (typeIs_str s x tx) F.entry_str_add (F.args_str_add_2 _ _) (gives_str_add x y tx ty) ?_;rw [hx,hy,h];refine ⟨hl,?_⟩;exact hR
theorem Mf(hx:(x.length==0)=true):Ob.Holds P (model prog w) (oB "str.__add__" [.str x tx,.str y ty] t n (.str y ty)):=by
 intro A R s _ _ _ ht _ _ hR;rw [Yg ht] at hR;refine Yb F.slot_str_add (typeIs_str s x tx) F.entry_str_add (F.args_str_add_2 _ _) (gives_str_add x y tx ty) ?_;rw [hx];exact hR
theorem XI{l:Addr}{vs:List Value}{e:Nat}{v:Value}(hz:vs.length<=sizeLine):
  Ob.Holds P (model prog w) (oB "list.append" [.ref l,v] t n .none (w:=some (l,listO vs e,listO (vs++[v]) (e+1)))):=by
 intro A R s _ _ _ ht _ _ ho hR;have hl:=XM ho;refine Yt F.slot_list_append hl.typeIs F.entry_list_append (F.args_list_append_2 _ _) ?_;show wpAny _ _ (updateSeq l (·.push v) >>= fun _=>ret .none) _ _ s;have T:=Turned.update (h:=s.heap) (f:=Obj.mapSeq (·.push v)) ho rfl;have e1:Obj.mapSeq (·.push v) (listO vs e)=listO (vs++[v]) (e+1):=by
  unfold Obj.mapSeq listO;simp
 rw [e1] at T;have:=hR _ T;rw [←ht] at this;refine wpAny_bind (wpAny_updateSeq ho rfl (wpAny_pure ⟨.none,rfl,this⟩) (by simpa using hz) (by simpa using hz))
end

noncomputable def Qu{α:Type}(P:Params)(tk:Nat)(f:Nat)(t:Sem α)(i:Nat):Option (α×Nat):=
 match f with
 | 0=>none
 | f+1=>match t with
  | .pure a=>some (a,i)
  | .rule _ k=>Qu P tk f (k ()) i
  | .at _ k=>Qu P tk f (k ()) i
  | .point _ k=>Qu P tk f (k ()) i
  | .ask k=>Qu P tk f (k ⟨pw,P⟩) i
  | .fresh k=>Qu P tk f (k (tk+i)) (i+1)
  | .load a _ k=>match pget P a with
   | some o=>Qu P tk f (k o) i
   | none=>none
  | _=>none
 termination_by structural f
theorem Zb{α:Type}{w:World}{A:Around}{Q:α->Shared->Prop}{E:Value->Shared->Prop}{h:Heap}{g:Array GenState}{dr:Drawn}{os:OsState}{tk:Nat}(hp:Prog (PP w) h):
  ∀(f:Nat) (t:Sem α) (i:Nat) {a:α} {i':Nat},Qu (PP w) tk f t i=some (a,i')->Q a ⟨h,g,dr,tk+i',os⟩->wpAny (model pw w) A t Q E ⟨h,g,dr,tk+i,os⟩:=by
 intro f
 induction f with
 | zero=>intro t i a i' he;cases he
 | succ f ih=>
  intro t i a i' he hq;cases t with
  | pure x=>cases he;exact wpAny_pure hq
  | rule tag k=>exact x_rule (ih _ _ he hq)
  | «at» q k=>exact x_at (ih _ _ he hq)
  | point q k=>exact x_point (ih _ _ he hq)
  | ask k=>
   refine x_ask ?_;have e:(⟨pw,w.params⟩:Setting)=⟨pw,PP w⟩:=by rw [←QR w]
   rw [e];exact ih _ _ he hq
  | fresh k=>exact x_fresh (ih _ _ he hq)
  | load b q k=>
   revert he;show (match pget (PP w) b with | some o=>Qu (PP w) tk f (k o) i | none=>none)=_->_;cases hg:pget (PP w) b with
   | none=>intro he;cases he
   | some ob=>exact fun he=>x_load (hp.prog b ob hg) (ih _ _ he hq)
  | _=>cases he
theorem UO{w:World}{A:Around}{R:Result->Shared->Prop}{h:Heap}{g:Array GenState}{dr:Drawn}{os:OsState}{tk:Nat}{c:Code}{v:Value}{f i:Nat}(hp:Prog (PP w) h) (he:Qu (PP w) tk f (denF c) 0=some (.done (.ret v),i))(hR:R (.ok (.ret v)) ⟨h,g,dr,tk+i,os⟩):codeAny (model pw w) A c R ⟨h,g,dr,tk,os⟩:=
 Xi (Zb hp f _ 0 he hR)
theorem BK{w:World}{A:Around}{R:Result->Shared->Prop}{h:Heap}{g:Array GenState}{dr:Drawn}{os:OsState}{tk:Nat}{c c':Code}{v:Value}{f i:Nat}(hp:Prog (PP w) h) (he:(Qu (PP w) tk f (denF c) 0,quietF c',Qu (PP w) tk f (denF c') 0)=(some (.again c',0),true,some (.done (.ret v),i)))(hR:R (.ok (.ret v)) ⟨h,g,dr,tk+i,os⟩):codeAny (model pw w) A c R ⟨h,g,dr,tk,os⟩:=by
 simp only [Prod.mk.injEq] at he;refine Xi (Zb hp f _ 0 he.1 ?_);show c'.quiet=true/\codeAny (model pw w) A c' (asR (qOf R) (eOf R)) _;rw [Xt];exact ⟨by rw [Xk];exact he.2.1,UO hp he.2.2 hR⟩
theorem SA{w:World}{c c':Code}{v:Value}{t n f i:Nat}(he:(Qu (PP w) t f (denF c) 0,quietF c',Qu (PP w) t f (denF c') 0)=(some (.again c',0),true,some (.done (.ret v),i))):
  Ob.Holds (PP w) (model pw w) {c:=c,t:=t,n:=n,v:=v,di:=i}:=by
 intro A R s _ _ hp ht _ _ hR;obtain rfl:s.toks=t:=ht;exact BK (g:=s.gens) (dr:=s.drawn) (os:=s.os) hp he hR
def dotS(n:Nat):Str:=⟨⟨List.replicate n 46⟩⟩
noncomputable def My(q:Nat)(up:Bool):Nat:=cond up (65+q) (97+q)
def Xz(q:Nat)(up:Bool):Str:=⟨⟨[My q up]⟩⟩
theorem Ba(b1 b2:Bool)(P:Params)(t tx:Nat)(q:Nat)(hq:q<3)(up:Bool):(Qu (Pf P b1 b2) t 100 (denF (.call (.builtin "re.Pattern.search") ⟨[.ref 69,.str (Xz q up) tx],[]⟩)) 0,
   quietF (.builtin "re.Pattern.search" ⟨[.ref 69,.str (Xz q up) tx],[]⟩),Qu (Pf P b1 b2) t 100 (denF (.builtin "re.Pattern.search" ⟨[.ref 69,.str (Xz q up) tx],[]⟩)) 0)=
  (some (.again (.builtin "re.Pattern.search" ⟨[.ref 69,.str (Xz q up) tx],[]⟩),0),true,some (.done (.ret .none),0)):=by
 match q,hq with
 | 0,_=>cases up<;>cases b1<;>kernel_rfl
 | 1,_=>cases up<;>cases b1<;>kernel_rfl
 | 2,_=>cases up<;>cases b1<;>kernel_rfl
theorem Mc(b1 b2:Bool)(P:Params)(t tx:Nat)(n:Nat)(hq:n<8):(Qu (Pf P b1 b2) t 100 (denF (.call (.builtin "re.Pattern.search") ⟨[.ref 74,.str (dotS n) tx],[]⟩)) 0,
   quietF (.builtin "re.Pattern.search" ⟨[.ref 74,.str (dotS n) tx],[]⟩),Qu (Pf P b1 b2) t 100 (denF (.builtin "re.Pattern.search" ⟨[.ref 74,.str (dotS n) tx],[]⟩)) 0)=
  (some (.again (.builtin "re.Pattern.search" ⟨[.ref 74,.str (dotS n) tx],[]⟩),0),true,some (.done (.ret .none),0)):=by
 match n,hq with
 | 0,_ | 1,_ | 2,_ | 3,_ | 4,_ | 5,_ | 6,_ | 7,_=>cases b1<;>kernel_rfl
section
variable{w:World}{t n tx q:Nat}{up:Bool}
theorem Xu(hq:q<3):Ob.Holds (PP w) (model pw w) (oB "re.Pattern.search" [.ref 69,.str (Xz q up) tx] t n .none):=SA (Ba _ _ _ t tx q hq up)
theorem XB(hq:q<8):Ob.Holds (PP w) (model pw w) (oB "re.Pattern.search" [.ref 74,.str (dotS q) tx] t n .none):=SA (Mc _ _ _ t tx q hq)
theorem Xs(hq:q<3):Ob.Holds (PP w) (model pw w) (oB "str.lower" [.str (Xz q up) tx] t n (.str (Xz q false) t) (di:=1)):=
 HY (by
  match q,hq with
  | 0,_ | 1,_ | 2,_=>cases up<;>decide+kernel) (by show 1<=sizeLine;decide)
end

noncomputable abbrev G7:Value:=.type PySem.W.SL.s4674234679698826739x5
noncomputable abbrev yq:Obj:={cls:=G7,data:=.fields ⟨[.none,.none,.none]⟩}
theorem qe:G7=.type "slice":=congrArg Value.type PySem.W.SL.e4674234679698826739x5.symm
theorem y8(vs us:List Value):(⟨vs⟩:Array Value).extract 0 (Int.toNat 0)++(⟨us⟩:Array Value)++(⟨vs⟩:Array Value).extract (max 0 (vs.length:Int)).toNat (⟨vs⟩:Array Value).size=⟨us⟩:=by
 have e:(max 0 (vs.length:Int)).toNat=vs.length:=by lia
 rw [e];simp
section
variable{P:Params}{prog:Program}{w:World}{t n:Nat}
theorem yx{l v sl:Addr}{vs us:List Value}{e e2:Nat}(hne:vs.length≠us.length)(hz:vs.length+us.length<=100):
  Ob.Holds P (model prog w) (oB "list.__setitem__" [.ref l,.ref sl,.ref v] t n .none (rd:=[(sl,yq),(v,listO us e2)]) (w:=some (l,listO vs e,listO us (e+1)))):=by
 intro A R s _ _ _ ht _ hr ho hR;have hsl:=hr (sl,yq) (.head _);have hv:=hr (v,listO us e2) (.tail _ (.head _));have hl:=XM ho;have hvl:=XM hv;have hTs:s.TypeIs (.ref sl) "slice":=⟨_,hsl,qe⟩;have hlv:(l==v)=false:=by
  refine beq_eq_false_iff_ne.mpr fun hx=>hne ?_;subst hx;rw [hv] at ho;injection ho with ho
  injection ho with _ _ ho
  injection ho with ho
  injection ho with ho
  rw [ho]
 refine Yt F.slot_list_setitem hl.typeIs F.entry_list_setitem (F.args_list_setitem_3 _ _ _) ?_;show wpAny _ _ (Builtin.List.listSubscript? (.ref sl) >>= _) _ _ s;refine wpAny_bind ?_;unfold Builtin.List.listSubscript?;refine wpAny_bind (wpAny_specialOf hTs slice_no_index ?_);simp only [Option.isNone_none,if_true];refine wpAny_pure ?_;show wpAny _ _ (typeOf (.ref sl) >>= _) _ _ s;refine wpAny_bind (wpAny_typeOf hTs ?_);rw [if_neg (by decide)]
 try refine wpAny_bind (wpAny_pure ?_)
 rw [listSliceParts_eq];refine wpAny_bind ?_;refine wpAny_bind (wpAny_field hsl rfl (x:=.none) rfl ?_);refine wpAny_bind (wpAny_listPart .none ?_);rw [if_neg (by decide)]
 try refine wpAny_bind (wpAny_pure ?_)
 refine wpAny_bind (wpAny_field hsl rfl (x:=.none) rfl ?_);refine wpAny_bind (wpAny_listPart .none ?_);refine wpAny_bind (wpAny_field hsl rfl (x:=.none) rfl ?_);refine wpAny_bind (wpAny_listPart .none ?_);refine wpAny_pure ?_;have e0:Builtin.List.listSameRef (.ref l) (.ref v)=false:=hlv;dsimp only;rw [e0];simp only [Bool.false_eq_true,if_false];refine wpAny_bind ?_;unfold Builtin.List.listAllItems;refine wpAny_bind (wpAny_typeOf hvl.typeIs ?_);rw [if_pos (by decide)];refine wpAny_listItems hv rfl ?_;refine wpAny_bind (wpAny_listItems ho rfl ?_);have es:sliceIndices (rawPart none) (rawPart none) (rawPart none) (⟨vs⟩:Array Value).size=pure (sliceBounds none none none (⟨vs⟩:Array Value).size):=sliceIndices_raw none none none _ (by decide);rw [es];refine wpAny_bind (wpAny_pure ?_);have hb:sliceBounds none none none (⟨vs⟩:Array Value).size=(0,(vs.length:Int),1):=rfl;rw [hb];dsimp only;rw [if_pos (by decide)];refine wpAny_bind (wpAny_rule ?_);have hz':(⟨vs⟩:Array Value).size+(⟨us⟩:Array Value).size<=100:=hz;rw [if_neg (by simp only [Builtin.List.listTooLong,decide_eq_true_eq];have:sizeLine=16777216:=rfl;lia)]
 try refine wpAny_bind (wpAny_pure ?_)
 have T:=Turned.update (h:=s.heap) (f:=Obj.mapSeq (fun xs=>xs.extract 0 (Int.toNat 0)++(⟨us⟩:Array Value)++xs.extract (max 0 (vs.length:Int)).toNat xs.size)) ho rfl;have e1:Obj.mapSeq (fun xs=>xs.extract 0 (Int.toNat 0)++(⟨us⟩:Array Value)++xs.extract (max 0 (vs.length:Int)).toNat xs.size) (listO vs e)=listO us (e+1):=by
  have hx:(fun xs:Array Value=>xs.extract 0 (Int.toNat 0)++(⟨us⟩:Array Value)++xs.extract (max 0 (vs.length:Int)).toNat xs.size) ⟨vs⟩=⟨us⟩:=y8 vs us;unfold Obj.mapSeq listO;dsimp only at hx ⊢;rw [hx];rw [if_neg (show¬(((⟨us⟩:Array Value).size==(⟨vs⟩:Array Value).size)=true) from fun h=>hne (beq_iff_eq.mp h).symm)]
 rw [e1] at T;have key:=hR _ T;rw [←ht] at key;refine wpAny_bind (wpAny_updateSeq ho rfl ?_ (by show vs.length<=_;have:sizeLine=16777216:=rfl;omega) ?_)
 ·exact wpAny_bind (wpAny_letGo (wpAny_pure ⟨.none,rfl,key⟩))
 ·have hx:(fun xs:Array Value=>xs.extract 0 (Int.toNat 0)++(⟨us⟩:Array Value)++xs.extract (max 0 (vs.length:Int)).toNat xs.size) ⟨vs⟩=⟨us⟩:=y8 vs us;dsimp only at hx;rw [hx];show us.length<=_;have:sizeLine=16777216:=rfl;omega
end

section
variable(b1 b2:Bool)(P:Params)
def EX:Bool->List Nat
 | true=>oC [As,dO 22 0x2821600580162c5810204183100c1800600180,HR,dO 15 0x810004000820a086801a0068d,At,dO 12 0x1c387001c000820200000]
 | false=>oC [As,dO 28 0xa08580160058b1604081060c403060018006001800600183,HR,dO 15 0x810004000820a086801a0068d,At,dO 12 0x1c387001c000820200000]
section
variable(n t:Nat)(x d l a0 a1 a2:Addr)(s0 s1 s2 D0 D1 D2:Str)(hk he u0 u1 u2 v0 v1 v2:Nat)(s vv:Str)(u uv:Nat)(ln l0 l1 l2:Str)
def set0:Out:=
 let xc:Code:=.call (.ref 110) ⟨[.ref x,.str s u,.str vv uv],[]⟩;ev (bS b1 b2 P n t) 607 (EX b2) [{v:=VS ln (t+4),di:=1},{v:=Value.none},{v:=VS l0 (t+12),di:=1},{v:=Value.bool false},{v:=VS l1 (t+15),di:=1},{v:=Value.bool true},{v:=VS l2 (t+18),di:=1},{v:=Value.bool true},{v:=Value.none,rd:=[0,4],w:=some (10,listO [VR a1,VR a2] (he+1))},{v:=Value.none},{v:=Value.none}] xc (XQ xc) [] 0 (Fs l a0 a1 a2 he x d P hk s0 u0 D0 v0 s1 u1 D1 v1 s2 u2 D2 v2) 0 0 [] []
theorem HI:Seg (set0 b1 b2 P n t x d l a0 a1 a2 s0 s1 s2 D0 D1 D2 hk he u0 u1 u2 v0 v1 v2 s vv u uv ln l0 l1 l2) (.flow (.ret .none)) (.call .none {}) 13 29 [oB "re.Pattern.search" [VR 74,VS vv uv] (t+29) (n+12) Value.none,oB "re.Pattern.search" [VR 69,VS s u] (t+25) (n+11) Value.none,oB "list.__setitem__" [VR l,VR (n+9),VR (n+5)] (t+20) (n+10) Value.none (rd:=[(n+9,yq),(n+5,listO [.ref a1,.ref a2] 2)]) (w:=some (l,listO [.ref a0,.ref a1,.ref a2] he,listO [.ref a1,.ref a2] (he+1))),oB "str.__ne__" [VS l2 (t+18),VS ln (t+4)] (t+19) (n+7) (Value.bool true),oB "str.lower" [VS s2 u2] (t+18) (n+7) (VS l2 (t+18)) (di:=1),oB "str.__ne__" [VS l1 (t+15),VS ln (t+4)] (t+16) (n+7) (Value.bool true),oB "str.lower" [VS s1 u1] (t+15) (n+7) (VS l1 (t+15)) (di:=1),oB "str.__ne__" [VS l0 (t+12),VS ln (t+4)] (t+13) (n+7) (Value.bool false),oB "str.lower" [VS s0 u0] (t+12) (n+7) (VS l0 (t+12)) (di:=1),oB "re.Pattern.search" [VR 69,VS ln (t+4)] (t+9) (n+4) Value.none,oB "str.lower" [VS s u] (t+4) (n+3) (VS ln (t+4)) (di:=1)] [0,13,14,15,16,17,18] ([(n+12,YO [.str s u,.str vv uv]),(l,listO [.ref a1,.ref a2,.ref (n+12)] (he+2)),(x,Xo d),(d,Xx P hk l),(a0,YO [.str s0 u0,.str D0 v0]),(a1,YO [.str s1 u1,.str D1 v1]),(a2,YO [.str s2 u2,.str D2 v2])]):=sT
def EW:Bool->List Nat
 | true=>oC [As,dO 82 0x1020008001041410d003400d1a34081020c188060c003000c0020a08600180060c1804081060c40306001800600102040010002082821600580162c5810204183100c1800600180,At,dO 12 0x1c387001c000820200000]
 | false=>oC [As,dO 88 0x4080020004105043400d003468d02040830620183000c0030008282180060018306010204183100c1800600180040810004000820a08580160058b1604081060c403060018006001800600183,At,dO 12 0x1c387001c000820200000]
def set1:Out:=
 let xc:Code:=.call (.ref 110) ⟨[.ref x,.str s u,.str vv uv],[]⟩;ev (bS b1 b2 P n t) 607 (EW b2) [{v:=VS ln (t+4),di:=1},{v:=Value.none},{v:=VS l0 (t+12),di:=1},{v:=Value.bool true},{v:=VS l1 (t+15),di:=1},{v:=Value.bool false},{v:=VS l2 (t+18),di:=1},{v:=Value.bool true},{v:=Value.none,rd:=[0,4],w:=some (10,listO [VR a0,VR a2] (he+1))},{v:=Value.none},{v:=Value.none}] xc (XQ xc) [] 0 (Fs l a0 a1 a2 he x d P hk s0 u0 D0 v0 s1 u1 D1 v1 s2 u2 D2 v2) 0 0 [] []
theorem HH:Seg (set1 b1 b2 P n t x d l a0 a1 a2 s0 s1 s2 D0 D1 D2 hk he u0 u1 u2 v0 v1 v2 s vv u uv ln l0 l1 l2) (.flow (.ret .none)) (.call .none {}) 13 29 [oB "re.Pattern.search" [VR 74,VS vv uv] (t+29) (n+12) Value.none,oB "re.Pattern.search" [VR 69,VS s u] (t+25) (n+11) Value.none,oB "list.__setitem__" [VR l,VR (n+9),VR (n+5)] (t+20) (n+10) Value.none (rd:=[(n+9,yq),(n+5,listO [.ref a0,.ref a2] 2)]) (w:=some (l,listO [.ref a0,.ref a1,.ref a2] he,listO [.ref a0,.ref a2] (he+1))),oB "str.__ne__" [VS l2 (t+18),VS ln (t+4)] (t+19) (n+7) (Value.bool true),oB "str.lower" [VS s2 u2] (t+18) (n+7) (VS l2 (t+18)) (di:=1),oB "str.__ne__" [VS l1 (t+15),VS ln (t+4)] (t+16) (n+7) (Value.bool false),oB "str.lower" [VS s1 u1] (t+15) (n+7) (VS l1 (t+15)) (di:=1),oB "str.__ne__" [VS l0 (t+12),VS ln (t+4)] (t+13) (n+7) (Value.bool true),oB "str.lower" [VS s0 u0] (t+12) (n+7) (VS l0 (t+12)) (di:=1),oB "re.Pattern.search" [VR 69,VS ln (t+4)] (t+9) (n+4) Value.none,oB "str.lower" [VS s u] (t+4) (n+3) (VS ln (t+4)) (di:=1)] [0,13,14,15,16,17,18] ([(n+12,YO [.str s u,.str vv uv]),(l,listO [.ref a0,.ref a2,.ref (n+12)] (he+2)),(x,Xo d),(d,Xx P hk l),(a0,YO [.str s0 u0,.str D0 v0]),(a1,YO [.str s1 u1,.str D1 v1]),(a2,YO [.str s2 u2,.str D2 v2])]):=sT
def EV:Bool->List Nat
 | true=>oC [As,dO 29 0x2040010002082821600580162c5810204183100c1800600180,HR,dO 8 0xa086801a0068d,At,dO 12 0x1c387001c000820200000]
 | false=>oC [As,dO 35 0x810004000820a08580160058b1604081060c403060018006001800600183,HR,dO 8 0xa086801a0068d,At,dO 12 0x1c387001c000820200000]
def set2:Out:=
 let xc:Code:=.call (.ref 110) ⟨[.ref x,.str s u,.str vv uv],[]⟩;ev (bS b1 b2 P n t) 607 (EV b2) [{v:=VS ln (t+4),di:=1},{v:=Value.none},{v:=VS l0 (t+12),di:=1},{v:=Value.bool true},{v:=VS l1 (t+15),di:=1},{v:=Value.bool true},{v:=VS l2 (t+18),di:=1},{v:=Value.bool false},{v:=Value.none,rd:=[0,4],w:=some (10,listO [VR a0,VR a1] (he+1))},{v:=Value.none},{v:=Value.none}] xc (XQ xc) [] 0 (Fs l a0 a1 a2 he x d P hk s0 u0 D0 v0 s1 u1 D1 v1 s2 u2 D2 v2) 0 0 [] []
theorem HG:Seg (set2 b1 b2 P n t x d l a0 a1 a2 s0 s1 s2 D0 D1 D2 hk he u0 u1 u2 v0 v1 v2 s vv u uv ln l0 l1 l2) (.flow (.ret .none)) (.call .none {}) 13 29 [oB "re.Pattern.search" [VR 74,VS vv uv] (t+29) (n+12) Value.none,oB "re.Pattern.search" [VR 69,VS s u] (t+25) (n+11) Value.none,oB "list.__setitem__" [VR l,VR (n+9),VR (n+5)] (t+20) (n+10) Value.none (rd:=[(n+9,yq),(n+5,listO [.ref a0,.ref a1] 2)]) (w:=some (l,listO [.ref a0,.ref a1,.ref a2] he,listO [.ref a0,.ref a1] (he+1))),oB "str.__ne__" [VS l2 (t+18),VS ln (t+4)] (t+19) (n+7) (Value.bool false),oB "str.lower" [VS s2 u2] (t+18) (n+7) (VS l2 (t+18)) (di:=1),oB "str.__ne__" [VS l1 (t+15),VS ln (t+4)] (t+16) (n+7) (Value.bool true),oB "str.lower" [VS s1 u1] (t+15) (n+7) (VS l1 (t+15)) (di:=1),oB "str.__ne__" [VS l0 (t+12),VS ln (t+4)] (t+13) (n+7) (Value.bool true),oB "str.lower" [VS s0 u0] (t+12) (n+7) (VS l0 (t+12)) (di:=1),oB "re.Pattern.search" [VR 69,VS ln (t+4)] (t+9) (n+4) Value.none,oB "str.lower" [VS s u] (t+4) (n+3) (VS ln (t+4)) (di:=1)] [0,13,14,15,16,17,18] ([(n+12,YO [.str s u,.str vv uv]),(l,listO [.ref a0,.ref a1,.ref (n+12)] (he+2)),(x,Xo d),(d,Xx P hk l),(a0,YO [.str s0 u0,.str D0 v0]),(a1,YO [.str s1 u1,.str D1 v1]),(a2,YO [.str s2 u2,.str D2 v2])]):=sT
end
end

theorem p3F:∀a b c q:_root_.Fin 3,a≠b->a≠c->b≠c->a≠q->b≠q->c=q:=by decide
theorem p3{a b c:Nat}(ha:a<3)(hb:b<3)(hc:c<3)(h1:a≠b)(h2:a≠c)(h3:b≠c){q:Nat}(hq:q<3)(e0: ¬a=q)(e1: ¬b=q):c=q:=
 Fin.mk.inj (p3F ⟨a,ha⟩ ⟨b,hb⟩ ⟨c,hc⟩ ⟨q,hq⟩ (fun e=>h1 (Fin.mk.inj e)) (fun e=>h2 (Fin.mk.inj e)) (fun e=>h3 (Fin.mk.inj e)) (fun e=>e0 (Fin.mk.inj e)) (fun e=>e1 (Fin.mk.inj e)))
structure HC where
 a:Addr
 q:Nat
 up:Bool
 n:Nat
 tn:Nat
 td:Nat
noncomputable def HC.cell(c:HC):Addr×Obj:=(c.a,YO [.str (Xz c.q c.up) c.tn,.str (dotS c.n) c.td])
structure HS where
 x:Addr
 d:Addr
 l:Addr
 hk:Nat
 he:Nat
 c0:HC
 c1:HC
 c2:HC
abbrev YP(s:HS):Xp:=(s.l,listO [.ref s.c0.a,.ref s.c1.a,.ref s.c2.a] s.he)
noncomputable def HS.cells(P:Params)(s:HS):List (Addr×Obj):=[(YP s),(s.x,Xo s.d),(s.d,Xx P s.hk s.l),s.c0.cell,s.c1.cell,s.c2.cell]
structure HS.Ok (s:HS):Prop where
 q0:s.c0.q<3
 q1:s.c1.q<3
 q2:s.c2.q<3
 d01:s.c0.q≠s.c1.q
 d02:s.c0.q≠s.c2.q
 d12:s.c1.q≠s.c2.q
noncomputable def HS.dots(s:HS)(q:Nat):Nat:=if s.c0.q=q then s.c0.n else if s.c1.q=q then s.c1.n else s.c2.n
theorem Q9{p q:Nat}(h:p=q):((Xz p false).cps.toList==(Xz q false).cps.toList)=true:=by subst h;exact beq_self_eq_true _
theorem Q0{p q:Nat}(h:p≠q):((Xz p false).cps.toList==(Xz q false).cps.toList)=false:=by
 refine beq_eq_false_iff_ne.mpr fun hx=>h ?_;simp only [Xz,My,cond_false,List.cons.injEq,and_true] at hx;omega
section
variable{w:World}{A:Around}{g:Array GenState}{dr:Drawn}{os:OsState}{h:Heap}{tk:Nat}{s:HS}{q u:Nat}{up:Bool}
theorem Yp{R:Result->Shared->Prop}(rm:Room 0 A)(hp:Prog (PP w) h)(ok:s.Ok)(hq:q<3)(H:Has h (s.cells w.params)) (Hn:∀h' tk' v,Prog (PP w) h'->Ext [] h h'->R (.ok (.ret (.str (dotS (s.dots q)) v))) ⟨h',g,dr,tk',os⟩): codeAny (model pw w) A (.call (.ref 144) ⟨[.ref s.x,.str (Xz q up) u],[]⟩) R ⟨h,g,dr,tk,os⟩:=by
 refine XG (Nat.le_trans (lar) rm.d) (by rw [Yd];exact Nat.zero_le _) ?_;have hro:∀p∈s.cells w.params,p∈s.cells w.params:=fun p hx=>hx
 by_cases e0:s.c0.q=q
 ·have ed:s.dots q=s.c0.n:=by unfold HS.dots;rw [if_pos e0]
  rw [ed] at Hn;refine Yo (k:=0) (nw:=[]) (l1:=[]) (l1':=[]) (Li (W1 w) (W2 w) w.params h.objs.size tk s.x s.d s.l s.c0.a s.c1.a s.c2.a (Xz s.c0.q s.c0.up) (Xz s.c1.q s.c1.up) (Xz s.c2.q s.c2.up) (dotS s.c0.n) (dotS s.c1.n) (dotS s.c2.n) s.hk s.he s.c0.tn s.c1.tn s.c2.tn s.c0.td s.c1.td s.c2.td (Xz q up) u (Xz q false) (Xz s.c0.q false) (Xz s.c1.q false) (Xz s.c2.q false))
   rfl rfl ?_ rm hp H H hro (Nat.le_refl _) trivial (by decide) rfl (fun _ hx=>(nomatch hx)) ?_
  ·exact ob (Qd (Q9 e0)) (ob (Xs ok.q0) (ob (Xu hq) (ob (Xs hq) Xn)))
  ·intro h' hp' _ X;exact Hn h' _ _ hp' X
 by_cases e1:s.c1.q=q
 ·have ed:s.dots q=s.c1.n:=by unfold HS.dots;rw [if_neg e0,if_pos e1]
  rw [ed] at Hn;refine Yo (k:=0) (nw:=[]) (l1:=[]) (l1':=[]) (Lh (W1 w) (W2 w) w.params h.objs.size tk s.x s.d s.l s.c0.a s.c1.a s.c2.a (Xz s.c0.q s.c0.up) (Xz s.c1.q s.c1.up) (Xz s.c2.q s.c2.up) (dotS s.c0.n) (dotS s.c1.n) (dotS s.c2.n) s.hk s.he s.c0.tn s.c1.tn s.c2.tn s.c0.td s.c1.td s.c2.td (Xz q up) u (Xz q false) (Xz s.c0.q false) (Xz s.c1.q false) (Xz s.c2.q false))
   rfl rfl ?_ rm hp H H hro (Nat.le_refl _) trivial (by decide) rfl (fun _ hx=>(nomatch hx)) ?_
  ·exact ob (Qd (Q9 e1)) (ob (Xs ok.q1) (ob (Qd (Q0 e0)) (ob (Xs ok.q0) (ob (Xu hq) (ob (Xs hq) Xn)))))
  ·intro h' hp' _ X;exact Hn h' _ _ hp' X
 ·have e2:s.c2.q=q:=p3 ok.q0 ok.q1 ok.q2 ok.d01 ok.d02 ok.d12 hq e0 e1;have ed:s.dots q=s.c2.n:=by unfold HS.dots;rw [if_neg e0,if_neg e1]
  rw [ed] at Hn;refine Yo (k:=0) (nw:=[]) (l1:=[]) (l1':=[]) (Lg (W1 w) (W2 w) w.params h.objs.size tk s.x s.d s.l s.c0.a s.c1.a s.c2.a (Xz s.c0.q s.c0.up) (Xz s.c1.q s.c1.up) (Xz s.c2.q s.c2.up) (dotS s.c0.n) (dotS s.c1.n) (dotS s.c2.n) s.hk s.he s.c0.tn s.c1.tn s.c2.tn s.c0.td s.c1.td s.c2.td (Xz q up) u (Xz q false) (Xz s.c0.q false) (Xz s.c1.q false) (Xz s.c2.q false))
   rfl rfl ?_ rm hp H H hro (Nat.le_refl _) trivial (by decide) rfl (fun _ hx=>(nomatch hx)) ?_
  ·exact ob (Qd (Q9 e2)) (ob (Xs ok.q2) (ob (Qd (Q0 e1)) (ob (Xs ok.q1) (ob (Qd (Q0 e0)) (ob (Xs ok.q0) (ob (Xu hq) (ob (Xs hq) Xn)))))))
  ·intro h' hp' _ X;exact Hn h' _ _ hp' X
theorem Tz{p q:Nat}(h:p=q):((Xz p false).cps.toList !=(Xz q false).cps.toList)=false:=by rw [bne,Q9 h];rfl
theorem Qg{p q:Nat}(h:p≠q):((Xz p false).cps.toList !=(Xz q false).cps.toList)=true:=by rw [bne,Q0 h];rfl
theorem Has.re{h:Heap}{l l' E:List (Addr×Obj)}(H:Has h (l++E))(jx:List Nat)(e:l'=jx.filterMap (l[·]?))(hn:jx.Nodup:=by decide):Has h (l'++E):=
 (Has.sel (H.perm List.perm_append_comm) jx e hn).perm List.perm_append_comm
theorem Has.re2{h:Heap}{A B l' E:List (Addr×Obj)}(H:Has h (A++(B++E)))(jx:List Nat)(e:l'=jx.filterMap ((A++B)[·]?))(hn:jx.Nodup:=by decide):Has h (l'++E):=
 Has.re (by rw [List.append_assoc];exact H) jx e hn
noncomputable def HS.setd(s:HS)(q:Nat)(up:Bool)(m:Nat)(a:Addr)(u uv:Nat):HS:=
 if s.c0.q=q then {s with he:=s.he+2,c0:=s.c1,c1:=s.c2,c2:=⟨a,q,up,m,u,uv⟩}
 else if s.c1.q=q then {s with he:=s.he+2,c0:=s.c0,c1:=s.c2,c2:=⟨a,q,up,m,u,uv⟩}
 else {s with he:=s.he+2,c0:=s.c0,c1:=s.c1,c2:=⟨a,q,up,m,u,uv⟩}
abbrev YC(s:HS)(w:World):Xp:=(s.d,Xx w.params s.hk s.l)
abbrev QI(h:Heap) q up u m uv:=((h.objs.size+12,YO [.str (Xz q up) u,.str (dotS m) uv]):Xp)
abbrev SQ(s:HS)(h:Heap):Xp:=(s.l,listO [.ref s.c1.a,.ref s.c2.a,.ref (h.objs.size+12)] (s.he+2))
abbrev SP(s:HS)(h:Heap):Xp:=(s.l,listO [.ref s.c0.a,.ref s.c2.a,.ref (h.objs.size+12)] (s.he+2))
abbrev SO(s:HS)(h:Heap):Xp:=(s.l,listO [.ref s.c0.a,.ref s.c1.a,.ref (h.objs.size+12)] (s.he+2))
theorem FE{R:Result->Shared->Prop}{E:List (Addr×Obj)}{m uv:Nat}(rm:Room 0 A)(hp:Prog (PP w) h)(ok:s.Ok)(hq:q<3)(hm:m<8)(H:Has h (s.cells w.params++E)) (Hn:∀h' tk' a,h.objs.size<=a->Prog (PP w) h'->Ext [s.l] h h'->Has h' ((s.setd q up m a u uv).cells w.params++E)->R (.ok (.ret .none)) ⟨h',g,dr,tk',os⟩): codeAny (model pw w) A (.call (.ref 110) ⟨[.ref s.x,.str (Xz q up) u,.str (dotS m) uv],[]⟩) R ⟨h,g,dr,tk,os⟩:=by
 refine XG (Nat.le_trans (lar) rm.d) (by rw [Yd];exact Nat.zero_le _) ?_
 by_cases e0:s.c0.q=q
 ·have e1:s.c1.q≠q:=fun x=>ok.d01 (e0.trans x.symm);have e2:s.c2.q≠q:=fun x=>ok.d02 (e0.trans x.symm);refine Yo (k:=0) (nw:=[(QI h q up u m uv)]) (l1:=[(YP s)]) (l1':=[(SQ s h)]) (ro:=[(s.x,Xo s.d),(YC s w),s.c0.cell,s.c1.cell,s.c2.cell]) (Ev:=[(s.x,Xo s.d),(YC s w),s.c0.cell,s.c1.cell,s.c2.cell]++E) (HI (W1 w) (W2 w) w.params h.objs.size tk s.x s.d s.l s.c0.a s.c1.a s.c2.a (Xz s.c0.q s.c0.up) (Xz s.c1.q s.c1.up) (Xz s.c2.q s.c2.up) (dotS s.c0.n) (dotS s.c1.n) (dotS s.c2.n) s.hk s.he s.c0.tn s.c1.tn s.c2.tn s.c0.td s.c1.td s.c2.td (Xz q up) (dotS m) u uv (Xz q false) (Xz s.c0.q false) (Xz s.c1.q false) (Xz s.c2.q false))
   rfl rfl ?_ rm hp H (Has.left (l':=E) H) (fun p hx=>List.mem_append_left _ hx) (Nat.le_refl _) trivial (by decide) rfl (fun p hx=>by rw [List.mem_singleton.mp hx];exact lar) ?_
  ·exact ob (XB hm) (ob (Xu hq) (ob (yx (show (3:Nat)≠2 by decide) (show (3:Nat)+2<=100 by decide)) (ob (JD (Qg e2)) (ob (Xs ok.q2) (ob (JD (Qg e1)) (ob (Xs ok.q1) (ob (JD (Tz e0)) (ob (Xs ok.q0) (ob (Xu hq) (ob (Xs hq) Xn))))))))))
  ·intro h' hp' S X;refine Hn h' _ (h.objs.size+12) (lar) hp' X ?_;have ed:s.setd q up m (h.objs.size+12) u uv={s with he:=s.he+2,c0:=s.c1,c1:=s.c2,c2:=⟨h.objs.size+12,q,up,m,u,uv⟩}:=by unfold HS.setd;rw [if_pos e0]
   rw [ed];exact Has.re (l:=[(QI h q up u m uv),(SQ s h),(s.x,Xo s.d),(YC s w),s.c0.cell,s.c1.cell,s.c2.cell]) S [1,2,3,5,6,0] rfl
 by_cases e1:s.c1.q=q
 ·have e2:s.c2.q≠q:=fun x=>ok.d12 (e1.trans x.symm);refine Yo (k:=0) (nw:=[(QI h q up u m uv)]) (l1:=[(YP s)]) (l1':=[(SP s h)]) (ro:=[(s.x,Xo s.d),(YC s w),s.c0.cell,s.c1.cell,s.c2.cell]) (Ev:=[(s.x,Xo s.d),(YC s w),s.c0.cell,s.c1.cell,s.c2.cell]++E) (HH (W1 w) (W2 w) w.params h.objs.size tk s.x s.d s.l s.c0.a s.c1.a s.c2.a (Xz s.c0.q s.c0.up) (Xz s.c1.q s.c1.up) (Xz s.c2.q s.c2.up) (dotS s.c0.n) (dotS s.c1.n) (dotS s.c2.n) s.hk s.he s.c0.tn s.c1.tn s.c2.tn s.c0.td s.c1.td s.c2.td (Xz q up) (dotS m) u uv (Xz q false) (Xz s.c0.q false) (Xz s.c1.q false) (Xz s.c2.q false))
   rfl rfl ?_ rm hp H (Has.left (l':=E) H) (fun p hx=>List.mem_append_left _ hx) (Nat.le_refl _) trivial (by decide) rfl (fun p hx=>by rw [List.mem_singleton.mp hx];exact lar) ?_
  ·exact ob (XB hm) (ob (Xu hq) (ob (yx (show (3:Nat)≠2 by decide) (show (3:Nat)+2<=100 by decide)) (ob (JD (Qg e2)) (ob (Xs ok.q2) (ob (JD (Tz e1)) (ob (Xs ok.q1) (ob (JD (Qg e0)) (ob (Xs ok.q0) (ob (Xu hq) (ob (Xs hq) Xn))))))))))
  ·intro h' hp' S X;refine Hn h' _ (h.objs.size+12) (lar) hp' X ?_;have ed:s.setd q up m (h.objs.size+12) u uv={s with he:=s.he+2,c0:=s.c0,c1:=s.c2,c2:=⟨h.objs.size+12,q,up,m,u,uv⟩}:=by unfold HS.setd;rw [if_neg e0,if_pos e1]
   rw [ed];exact Has.re (l:=[(QI h q up u m uv),(SP s h),(s.x,Xo s.d),(YC s w),s.c0.cell,s.c1.cell,s.c2.cell]) S [1,2,3,4,6,0] rfl
 ·have e2:s.c2.q=q:=p3 ok.q0 ok.q1 ok.q2 ok.d01 ok.d02 ok.d12 hq e0 e1;refine Yo (k:=0) (nw:=[(QI h q up u m uv)]) (l1:=[(YP s)]) (l1':=[(SO s h)]) (ro:=[(s.x,Xo s.d),(YC s w),s.c0.cell,s.c1.cell,s.c2.cell]) (Ev:=[(s.x,Xo s.d),(YC s w),s.c0.cell,s.c1.cell,s.c2.cell]++E) (HG (W1 w) (W2 w) w.params h.objs.size tk s.x s.d s.l s.c0.a s.c1.a s.c2.a (Xz s.c0.q s.c0.up) (Xz s.c1.q s.c1.up) (Xz s.c2.q s.c2.up) (dotS s.c0.n) (dotS s.c1.n) (dotS s.c2.n) s.hk s.he s.c0.tn s.c1.tn s.c2.tn s.c0.td s.c1.td s.c2.td (Xz q up) (dotS m) u uv (Xz q false) (Xz s.c0.q false) (Xz s.c1.q false) (Xz s.c2.q false))
   rfl rfl ?_ rm hp H (Has.left (l':=E) H) (fun p hx=>List.mem_append_left _ hx) (Nat.le_refl _) trivial (by decide) rfl (fun p hx=>by rw [List.mem_singleton.mp hx];exact lar) ?_
  ·exact ob (XB hm) (ob (Xu hq) (ob (yx (show (3:Nat)≠2 by decide) (show (3:Nat)+2<=100 by decide)) (ob (JD (Tz e2)) (ob (Xs ok.q2) (ob (JD (Qg e1)) (ob (Xs ok.q1) (ob (JD (Qg e0)) (ob (Xs ok.q0) (ob (Xu hq) (ob (Xs hq) Xn))))))))))
  ·intro h' hp' S X;refine Hn h' _ (h.objs.size+12) (lar) hp' X ?_;have ed:s.setd q up m (h.objs.size+12) u uv={s with he:=s.he+2,c0:=s.c0,c1:=s.c1,c2:=⟨h.objs.size+12,q,up,m,u,uv⟩}:=by unfold HS.setd;rw [if_neg e0,if_neg e1]
   rw [ed];exact Has.re (l:=[(QI h q up u m uv),(SO s h),(s.x,Xo s.d),(YC s w),s.c0.cell,s.c1.cell,s.c2.cell]) S [1,2,3,4,5,0] rfl
end

section
variable(b1 b2:Bool)(P:Params)
def EY:Bool->List Nat
 | true=>oC [dO 30 0x10004001020010102040810008002040800004040000204000,Ck]
 | false=>oC [dO 36 0x600180060c0010004001020010102040810008002040800004040000204000,Ck]
section
variable(n t:Nat)(s r0 r1 r2 n0 n1 n2:Str)(u:Nat)(c0 c1 c2:Int)
def rows:Out:=
 let xc:Code:=.call (.ref 213) ⟨[.str s u],[]⟩;ev (bS b1 b2 P n t) 229 (EY b2) [{v:=VR (n+1),di:=4,al:=[listO [VS r0 (t+2+0),VS r1 (t+2+1),VS r2 (t+2+2),VS {cps:={toList:=[]}} (t+2+3)] 0]},{v:=VS n0 (t+10),di:=1},{v:=VI c0 (t+12),di:=1},{v:=VS n1 (t+15),di:=1},{v:=VI c1 (t+17),di:=1},{v:=VS n2 (t+20),di:=1},{v:=VI c2 (t+22),di:=1}] xc (XQ xc) [] 0 [] 0 0 [] []
theorem HJ:Seg (rows b1 b2 P n t s r0 r1 r2 n0 n1 n2 u c0 c1 c2) (.flow (.ret (.ref (n+5)))) (.call .none {}) 12 23 [oB "str.count" [VS r2 (t+2+2),VS {cps:={toList:=[46]}} (t+21)] (t+22) (n+9) (VI c2 (t+22)) (di:=1),oB "str.strip" [VS r2 (t+2+2),VS {cps:={toList:=[46]}} (t+19)] (t+20) (n+9) (VS n2 (t+20)) (di:=1),oB "str.count" [VS r1 (t+2+1),VS {cps:={toList:=[46]}} (t+16)] (t+17) (n+8) (VI c1 (t+17)) (di:=1),oB "str.strip" [VS r1 (t+2+1),VS {cps:={toList:=[46]}} (t+14)] (t+15) (n+8) (VS n1 (t+15)) (di:=1),oB "str.count" [VS r0 (t+2+0),VS {cps:={toList:=[46]}} (t+11)] (t+12) (n+7) (VI c0 (t+12)) (di:=1),oB "str.strip" [VS r0 (t+2+0),VS {cps:={toList:=[46]}} (t+9)] (t+10) (n+7) (VS n0 (t+10)) (di:=1),oB "str.split" [VS s u,VS {cps:={toList:=[13,10]}} (t+1)] (t+2) (n+1) (VR (n+1)) (di:=4) (al:=[listO [VS r0 (t+2+0),VS r1 (t+2+1),VS r2 (t+2+2),VS {cps:={toList:=[]}} (t+2+3)] 0])] [6,4,3,2] ([(n+5,listO [.ref (n+7),.ref (n+8),.ref (n+9)] 3),(n+7,listO [.str n0 (t+10),.int c0 (t+12)] 0),(n+8,listO [.str n1 (t+15),.int c1 (t+17)] 0),(n+9,listO [.str n2 (t+20),.int c2 (t+22)] 0)]):=sT
end
end

section
variable{P:Params}{prog:Program}{w:World}{t n:Nat}{x y r0 r1 r2 r3:Str}{tx ty:Nat}
theorem HW(h1:(decide (x.length<y.length)||decide (Builtin.Str.strKind x<Builtin.Str.strKind y))=false)(hy:(y.length==0)=false)(hf:(Builtin.Str.occurrences x y 0 x.length (x.length+1)).isEmpty=false) (hp:Builtin.Str.partsBetween x (Builtin.Str.occurrences x y 0 x.length (x.length+1)) y.length=[r0,r1,r2,r3])(hl:∀r∈[r0,r1,r2,r3],r.length<=sizeLine):
  Ob.Holds P (model prog w) (oB "str.split" [.str x tx,.str y ty] t n (.ref n) (di:=4) (al:=[listO [.str r0 (t+0),.str r1 (t+1),.str r2 (t+2),.str r3 (t+3)] 0])):=by
 intro A R s _ _ _ ht hn _ hR;obtain rfl:s.toks=t:=ht;obtain rfl:s.heap.objs.size=n:=hn;refine Yt F.slot_str_split (typeIs_str s x tx) F.entry_str_split (F.args_str_split_2 _ _) ?_;obtain ⟨raising,htree⟩:=split_sep_tree x y tx ty;rw [htree,h1,hy,hf,hp];simp only [Bool.false_eq_true,if_false,Bool.and_false];refine wpAny_bind (wpAny_mapM_mkStr _ _ _ hl ?_);refine wpAny_bind (wpAny_newList (wpAny_pure ⟨_,rfl,?_⟩) (by show (4:Nat)<=sizeLine;decide));have e:({cls:=.type "list",data:=.seq (strsFrom s.toks [r0,r1,r2,r3]).toArray}:Obj)=listO [.str r0 (s.toks+0),.str r1 (s.toks+1),.str r2 (s.toks+2),.str r3 (s.toks+3)] 0:=by
  unfold listO;rw [Ye]
  rfl
 rw [e];exact hR
end

noncomputable def rowL(k n:Nat)(up own:Bool):List Nat:=cond own (List.replicate (n+1) 46++[My k up]) (My k up::List.replicate n 46)
def rowS(k n:Nat)(up own:Bool):Str:=⟨⟨rowL k n up own⟩⟩
def rowN(n:Nat)(own:Bool):Nat:=cond own (n+1) n
noncomputable def TB(p:Nat)(up:Bool)(n0 n1 n2:Nat):List Nat:=rowL 0 n0 up (p==0)++([13,10]++(rowL 1 n1 up (p==1)++([13,10]++(rowL 2 n2 up (p==2)++[13,10]))))
def mailS(p:Nat)(up:Bool)(n0 n1 n2:Nat):Str:=⟨⟨TB p up n0 n1 n2⟩⟩
def crlf:Str:=⟨⟨[13,10]⟩⟩
def dot1:Str:=⟨⟨[46]⟩⟩
theorem QX{a b:Str}(h:a.cps.toList=b.cps.toList):a=b:=by
 cases a with | mk a=>cases b with | mk b=>cases a;cases b;cases h;rfl
theorem Tj{a b:List Str}(h:a.map (fun x=>x.cps.toList)=b.map (fun x=>x.cps.toList)):a=b:=by
 induction a generalizing b with
 | nil=>cases b with
  | nil=>rfl
  | cons y b=>cases h
 | cons x a ih=>cases b with
  | nil=>cases h
  | cons y b=>
   simp only [List.map_cons,List.cons.injEq] at h;rw [QX h.1,ih h.2]
noncomputable def NE(k n:Nat)(up own:Bool):Bool:=
 (PySem.stripSame dot1.cps.contains true true (rowS k n up own)==false)&&decide ((PySem.stripped dot1.cps.contains true true (rowS k n up own)).cps.toList=[My k up])&&decide ((Builtin.Str.occurrences (rowS k n up own) dot1 0 (rowS k n up own).length ((rowS k n up own).length+1)).length=rowN n own)
theorem Bb:((List.range 3).all fun k=>(List.range 7).all fun n=>[true,false].all fun up=>[true,false].all fun own=>NE k (n+1) up own)=true:=by decide+kernel
theorem yU(b:Bool):b∈[true,false]:=by cases b<;>simp
theorem FG{k n:Nat}{up own:Bool}(hk:k<3)(h1:1<=n)(h2:n<=7):NE k n up own=true:=by
 have h:=Bb;rw [List.all_eq_true] at h;have h:=h k (List.mem_range.mpr hk);rw [List.all_eq_true] at h;have h:=h (n - 1) (List.mem_range.mpr (by omega));rw [List.all_eq_true] at h;have h:=h up (yU up);rw [List.all_eq_true] at h;have h:=h own (yU own)
 rwa [Nat.sub_add_cancel h1] at h
noncomputable def TA(p:Nat)(up:Bool)(a b c:Nat):Bool:=
 let x:=mailS p up a b c
 (decide (x.length<crlf.length)||decide (Builtin.Str.strKind x<Builtin.Str.strKind crlf))==false&&((Builtin.Str.occurrences x crlf 0 x.length (x.length+1)).isEmpty==false)&&
  decide ((Builtin.Str.partsBetween x (Builtin.Str.occurrences x crlf 0 x.length (x.length+1)) crlf.length).map (fun x=>x.cps.toList)=[rowL 0 a up (p==0),rowL 1 b up (p==1),rowL 2 c up (p==2),[]])
noncomputable def BX(f:Nat->Bool->Nat->Nat->Nat->Bool):Bool:=
 (List.range 3).all fun p=>[true,false].all fun up=>(List.range 5).all fun a=>(List.range (5 - a)).all fun b=>(List.range (5 - a - b)).all fun c=>f p up (a+1) (b+1) (c+1)
theorem yn{f:Nat->Bool->Nat->Nat->Nat->Bool}(h:BX f=true){p:Nat}{up:Bool}{a b c:Nat}(hp:p<3)(ha:1<=a)(hb:1<=b)(hc:1<=c)(hs:a+b+c<=7):f p up a b c=true:=by
 unfold BX at h;rw [List.all_eq_true] at h;have h:=h p (List.mem_range.mpr hp);rw [List.all_eq_true] at h;have h:=h up (yU up);rw [List.all_eq_true] at h;have h:=h (a - 1) (List.mem_range.mpr (by omega));rw [List.all_eq_true] at h;have h:=h (b - 1) (List.mem_range.mpr (by omega));rw [List.all_eq_true] at h;have h:=h (c - 1) (List.mem_range.mpr (by omega))
 rwa [Nat.sub_add_cancel ha,Nat.sub_add_cancel hb,Nat.sub_add_cancel hc] at h
theorem Ml:BX TA=true:=by decide+kernel
theorem Tl(k n:Nat)(up own:Bool):(rowL k n up own).length=rowN n own+1:=by cases own<;>simp [rowL,rowN]
section
variable{w:World}{A:Around}{g:Array GenState}{dr:Drawn}{os:OsState}{h:Heap}{tk t n u tx ty:Nat}{p a b c k m:Nat}{up own:Bool}
theorem ZS(hk:k<3)(h1:1<=m)(h2:m<=7):Ob.Holds (PP w) (model pw w) (oB "str.strip" [.str (rowS k m up own) tx,.str ⟨⟨[46]⟩⟩ ty] t n (.str (Xz k up) t) (di:=1)):=by
 have h:=FG (up:=up) (own:=own) hk h1 h2;simp only [NE,Bool.and_eq_true,beq_iff_eq,decide_eq_true_eq] at h;exact HV (y:=dot1) h.1.1 (QX h.1.2) (by show 1<=sizeLine;decide)
theorem ZV(hk:k<3)(h1:1<=m)(h2:m<=7):Ob.Holds (PP w) (model pw w) (oB "str.count" [.str (rowS k m up own) tx,.str ⟨⟨[46]⟩⟩ ty] t n (.int (rowN m own:Nat) t) (di:=1)):=by
 have h:=FG (up:=up) (own:=own) hk h1 h2;simp only [NE,Bool.and_eq_true,beq_iff_eq,decide_eq_true_eq] at h;exact HZ (y:=dot1) (by rw [h.2])
theorem QZ(hp:p<3)(ha:1<=a)(hb:1<=b)(hc:1<=c)(hs:a+b+c<=7):
  Ob.Holds (PP w) (model pw w) (oB "str.split" [.str (mailS p up a b c) tx,.str ⟨⟨[13,10]⟩⟩ ty] t n (.ref n) (di:=4) (al:=[listO [.str (rowS 0 a up (p==0)) (t+0),.str (rowS 1 b up (p==1)) (t+1),.str (rowS 2 c up (p==2)) (t+2),.str ⟨⟨[]⟩⟩ (t+3)] 0])):=by
 have h:=yn Ml (up:=up) hp ha hb hc hs;simp only [TA,Bool.and_eq_true,beq_iff_eq,decide_eq_true_eq] at h;refine HW (y:=crlf) h.1.1 rfl h.1.2 (Tj h.2) fun r hr=>?_;have hz:sizeLine=16777216:=rfl;have e:∀k n up own,(rowS k n up own).length=rowN n own+1:=fun k n up own=>Tl k n up own;have e2:∀n own,rowN n own<=n+1:=fun n own=>by cases own<;>simp [rowN]
 simp only [List.mem_cons,List.not_mem_nil,or_false] at hr;rcases hr with rfl | rfl | rfl | rfl
 ·rw [e];have:=e2 a (p==0);omega
 ·rw [e];have:=e2 b (p==1);omega
 ·rw [e];have:=e2 c (p==2);omega
 ·exact Nat.zero_le _
abbrev Z4 r a0 a1 a2:=((r,listO [.ref a0,.ref a1,.ref a2] 3):Xp)
noncomputable def JB(r:Addr)(a0 a1 a2:Addr)(t0 t1 t2 s0 s1 s2:Nat)(up:Bool)(m0 m1 m2:Nat):List (Addr×Obj):=[(Z4 r a0 a1 a2),(a0,listO [.str (Xz 0 up) t0,.int (m0:Nat) s0] 0),(a1,listO [.str (Xz 1 up) t1,.int (m1:Nat) s1] 0),(a2,listO [.str (Xz 2 up) t2,.int (m2:Nat) s2] 0)]
theorem qf{R:Result->Shared->Prop}(rm:Room 0 A)(hpg:Prog (PP w) h)(hp:p<3)(ha:1<=a)(hb:1<=b)(hc:1<=c)(hs:a+b+c<=7) (Hn:∀h' tk' r a0 a1 a2 t0 t1 t2 s0 s1 s2,Prog (PP w) h'->Ext [] h h'->h.objs.size<=r->h.objs.size<=a0->h.objs.size<=a1->h.objs.size<=a2-> Has h' (JB r a0 a1 a2 t0 t1 t2 s0 s1 s2 up (rowN a (p==0)) (rowN b (p==1)) (rowN c (p==2)))->R (.ok (.ret (.ref r))) ⟨h',g,dr,tk',os⟩): codeAny (model pw w) A (.call (.ref 213) ⟨[.str (mailS p up a b c) u],[]⟩) R ⟨h,g,dr,tk,os⟩:=by
 refine XG (Nat.le_trans (lar) rm.d) (by rw [Yd];exact Nat.zero_le _) ?_;refine Yo (k:=0) (nw:=JB (h.objs.size+5) (h.objs.size+7) (h.objs.size+8) (h.objs.size+9) (tk+10) (tk+15) (tk+20) (tk+12) (tk+17) (tk+22) up (rowN a (p==0)) (rowN b (p==1)) (rowN c (p==2))) (l1:=[]) (l1':=[]) (ro:=[]) (Ev:=[]) (HJ (W1 w) (W2 w) w.params h.objs.size tk (mailS p up a b c) (rowS 0 a up (p==0)) (rowS 1 b up (p==1)) (rowS 2 c up (p==2)) (Xz 0 up) (Xz 1 up) (Xz 2 up) u (rowN a (p==0):Nat) (rowN b (p==1):Nat) (rowN c (p==2):Nat))
  rfl rfl ?_ rm hpg (Has.nil h) (Has.nil h) (fun _ hx=>hx) (Nat.le_refl _) trivial (by decide) rfl ?_ ?_
 ·exact ob (ZV (by omega) hc (by omega)) (ob (ZS (by omega) hc (by omega)) (ob (ZV (by omega) hb (by omega)) (ob (ZS (by omega) hb (by omega)) (ob (ZV (by omega) ha (by omega)) (ob (ZS (by omega) ha (by omega)) (ob (QZ hp ha hb hc hs) Xn))))))
 ·intro q hx;simp only [JB,List.mem_cons,List.not_mem_nil,or_false] at hx;rcases hx with rfl | rfl | rfl | rfl<;>exact lar
 ·intro h' hp' S X;exact Hn h' _ _ _ _ _ _ _ _ _ _ _ hp' X (lar) (lar) (lar) (lar) (by rw [List.append_nil,List.append_nil] at S;exact S)
end

section
open PySem.Builtin.Re
noncomputable def srch(code text:List Nat)(start:Nat):Option (Option (Nat×Nat)):=
 let m:=Sre.M.runFor 200 (Sre.forSearch ⟨code⟩ ⟨text⟩ 0 start text.length false)
 match m.outcome with
 | some .matched=>some (some (m.start,m.handed))
 | some .failed=>some none
 | _=>none
theorem Zf:∀(n:Nat) (m:Sre.M),m.outcome.isSome=true->Sre.M.runFor n m=m
 | 0,_,_=>rfl
 | n+1,m,h=>by
  show (if m.outcome.isSome=true then m else _)=m;rw [if_pos h]
theorem Js:∀(a b:Nat) (m:Sre.M),Sre.M.runFor (a+b) m=Sre.M.runFor b (Sre.M.runFor a m)
 | 0,b,m=>by rw [Nat.zero_add];rfl
 | a+1,b,m=>by
  rw [Nat.succ_add];show (if m.outcome.isSome=true then m else Sre.M.runFor (a+b) m.step)=Sre.M.runFor b (if m.outcome.isSome=true then m else Sre.M.runFor a m.step)
  by_cases h:m.outcome.isSome=true
  ·rw [if_pos h,if_pos h,Zf b m h]
  ·rw [if_neg h,if_neg h,Js a b]
section
variable{M:Model}{A:Around}{E:Value->Shared->Prop}{s:Shared}
theorem Ji{Q:Sre.M->Shared->Prop}:∀(T K:Nat) (m:Sre.M),K<4*T->(Sre.M.runFor K m).outcome.isSome=true->Q (Sre.M.runFor K m) s->wpAny M A (reDrive T m) Q E s
 | 0,K,m,hK,_,_=>absurd hK (by omega)
 | T+1,K,m,hK,ho,hQ=>by
  show wpAny M A (if (Sre.M.runFor 4 m).outcome.isSome=true then pure (Sre.M.runFor 4 m) else (do rule "sre.turn";reDrive T (Sre.M.runFor 4 m))) Q E s
  by_cases hk:K<=4
  ·have e:Sre.M.runFor 4 m=Sre.M.runFor K m:=by
    have e4:Sre.M.runFor (K+(4 - K)) m=Sre.M.runFor K m:=by rw [Js,Zf _ _ ho]
    rwa [Nat.add_sub_of_le hk] at e4
   rw [e,if_pos ho];exact wpAny_pure hQ
  ·have e:Sre.M.runFor K m=Sre.M.runFor (K - 4) (Sre.M.runFor 4 m):=by
    rw [←Js];congr 1;omega
   rw [e] at ho hQ
   by_cases h4:(Sre.M.runFor 4 m).outcome.isSome=true
   ·rw [if_pos h4];rw [Zf _ _ h4] at hQ;exact wpAny_pure hQ
   ·rw [if_neg h4];exact wpAny_bind (wpAny_rule (Ji T (K - 4) _ (by omega) ho hQ))
theorem Zc{f:Nat->Bool}{nm:Nat->String}:∀(l:List Nat) {Q:PUnit->Shared->Prop},Q ⟨⟩ s->
  wpAny M A (forIn l PUnit.unit fun i _=>if f i=true then (rule (nm i) >>= fun _=>(pure (ForInStep.yield PUnit.unit):Sem (ForInStep PUnit))) else pure (ForInStep.yield PUnit.unit)) Q E s
 | [],Q,h=>wpAny_pure h
 | x::l,Q,h=>by
  rw [List.forIn_cons];refine wpAny_bind ?_
  by_cases hx:f x=true
  ·rw [if_pos hx];exact wpAny_bind (wpAny_rule (wpAny_pure (Zc l h)))
  ·rw [if_neg hx];exact wpAny_pure (Zc l h)
theorem qa{Q:Option Sre.M->Shared->Prop}{m:Sre.M}(ho:(Sre.M.runFor 200 m).outcome.isSome=true) (h1:(Sre.M.runFor 200 m).outcome=some .matched->Q (some (Sre.M.runFor 200 m)) s)(h2:(Sre.M.runFor 200 m).outcome=some .failed->Q none s)(h3:∀why,(Sre.M.runFor 200 m).outcome≠some (.stuck why)):
  wpAny M A (reRunToEnd m) Q E s:=by
 unfold reRunToEnd;refine wpAny_bind (Ji _ 200 m (by decide) ho ?_);refine wpAny_bind (Zc (f:=fun i=>(Sre.M.runFor 200 m).seen.has i) (nm:=fun i=>Sre.names.getD i "") _ ?_);generalize Sre.M.runFor 200 m=z at ho h1 h2 h3 ⊢
 match hz:z.outcome,ho with
 | some .matched,_=>exact wpAny_pure (h1 hz)
 | some .failed,_=>exact wpAny_pure (h2 hz)
 | some (.stuck why),_=>exact absurd hz (h3 why)
theorem Yh{Q:Option Sre.M->Shared->Prop}{pat str:Value}{code text:List Nat}{pos start:Nat}{r:Option (Nat×Nat)}(hs:srch code text start=some r) (h1:∀m:Sre.M,r=some (m.start,m.handed)->Q (some m) s)(h2:r=none->Q none s):
  wpAny M A (reNextFound {pattern:=pat,string:=str,code:=⟨code⟩,text:=⟨text⟩,kind:=0,groups:=0,pos:=pos,lim:=text.length} start false) Q E s:=by
 unfold reNextFound;have hs':(match (Sre.M.runFor 200 (Sre.forSearch ⟨code⟩ ⟨text⟩ 0 start text.length false)).outcome with
  | some .matched=>some (some ((Sre.M.runFor 200 (Sre.forSearch ⟨code⟩ ⟨text⟩ 0 start text.length false)).start,(Sre.M.runFor 200 (Sre.forSearch ⟨code⟩ ⟨text⟩ 0 start text.length false)).handed))
  | some .failed=>some none
  | _=>none)=some r:=hs
 refine qa ?_ ?_ ?_ ?_
 all_goals
  dsimp only;generalize Sre.M.runFor 200 (Sre.forSearch ⟨code⟩ ⟨text⟩ 0 start text.length false)=z at hs' ⊢
 ·cases hz:z.outcome with
  | none=>rw [hz] at hs';cases hs'
  | some o=>rfl
 ·intro hz;rw [hz] at hs';injection hs' with hs';exact h1 z hs'.symm
 ·intro hz;rw [hz] at hs';injection hs' with hs';exact h2 hs'.symm
 ·intro why hz;rw [hz] at hs';cases hs'
end
end

section
open PySem.Builtin.Re
noncomputable def J7:List Nat:=[14,4,0,1,1,6,1,16,46,1]
noncomputable def code2:List Nat:=[14,9,4,1,2,16,10,16,13,0,7,7,16,13,16,10,15,18,5,16,10,15,13,11,16,13,5,5,0,16,10,1,15,2,0,1]
noncomputable def tgt(pat:Addr)(code:List Nat)(x:List Nat)(tx:Nat):ReTarget:={pattern:=.ref pat,string:=.str ⟨⟨x⟩⟩ tx,code:=⟨code⟩,text:=⟨x⟩,kind:=0,groups:=0,pos:=0,lim:=x.length}
def yX(w:World)(pat:Addr)(code:List Nat):Prop:=∀(tk:Nat) (x:List Nat) (tx:Nat),Qu (PP w) tk 40 (reWholeTarget (.ref pat) (.str ⟨⟨x⟩⟩ tx)) 0=some (tgt pat code x tx,0)
theorem V0(b1 b2:Bool)(P:Params)(tk:Nat)(x:List Nat)(tx:Nat):Qu (Pf P b1 b2) tk 40 (reWholeTarget (.ref 52) (.str ⟨⟨x⟩⟩ tx)) 0=some (tgt 52 J7 x tx,0):=by cases b1<;>kernel_rfl
theorem VZ(b1 b2:Bool)(P:Params)(tk:Nat)(x:List Nat)(tx:Nat):Qu (Pf P b1 b2) tk 40 (reWholeTarget (.ref 57) (.str ⟨⟨x⟩⟩ tx)) 0=some (tgt 57 code2 x tx,0):=by cases b1<;>kernel_rfl
theorem DO(w:World):yX w 52 J7:=fun tk x tx=>V0 _ _ _ tk x tx
theorem DN(w:World):yX w 57 code2:=fun tk x tx=>VZ _ _ _ tk x tx
theorem Zy:entryFor table "re.Pattern.sub.loop"=some Builtin.«re.Pattern.sub.loop»:=entryFor_of_tree (by kernel_rfl)
noncomputable def loopC(pat:Addr)(x:List Nat)(tx:Nat)(repl:Str)(tr:Nat)(n done:Int)(l:Addr):Code:=
 .builtin "re.Pattern.sub.loop" ⟨[.ref pat,.str ⟨⟨x⟩⟩ tx,.str repl tr,rawInt 0,rawInt 0,rawInt n,rawInt done,rawInt done,.bool false,.ref l,.bool false],[]⟩
theorem loop_quiet(pat:Addr)(x:List Nat)(tx:Nat)(repl:Str)(tr:Nat)(n done:Int)(l:Addr):(loopC pat x tx repl tr n done l).quiet=true:=by rw [Xk];kernel_rfl
theorem YN{prog:Program}{w:World}{A:Around}{R:Result->Shared->Prop}{s:Shared}{id:String}{args:Args}{b:Builtin}(hb:entryFor table id=some b) (h:wpAny (model prog w) (A.under (.builtin id args)) (b args) (fun fin s'=>match fin with | .done f=>R (.ok f) s' | .again c'=>c'.quiet=true/\codeAny (model prog w) A c' R s') (fun e s'=>R (.error e) s') s): codeAny (model prog w) A (.builtin id args) R s:=by
 refine codeAny_of_tree ?_;show wpAny _ _ (match entryFor table id with | some b=>b args | none=>unsupported ((withoutEnding? id "#data").getD id)) _ _ s;rw [hb];exact h
section
variable{w:World}{A:Around}{R:Result->Shared->Prop}{h:Heap}{g:Array GenState}{dr:Drawn}{os:OsState}{tk:Nat}{pat:Addr}{code x:List Nat}{tx tr:Nat}{repl:Str}{n:Int}{done:Nat}{l:Addr}{vs:List Value}{e:Nat}
theorem qY{M:Model}{A:Around}{E:Value->Shared->Prop}{s:Shared}{Q:Unit->Shared->Prop}{l:Addr}{vs:List Value}{e:Nat}{v:Value}(ho:s.heap.get? l=some (listO vs e))(hz:vs.length<=200) (h:∀h',Turned l (listO (vs++[v]) (e+1)) s.heap h'->Q () {s with heap:=h'}):wpAny M A (updateSeq l (·.push v)) Q E s:=by
 have T:=Turned.update (h:=s.heap) (f:=Obj.mapSeq (·.push v)) ho rfl;have e1:Obj.mapSeq (·.push v) (listO vs e)=listO (vs++[v]) (e+1):=by
  unfold Obj.mapSeq listO;simp
 rw [e1] at T;have hs:sizeLine=16777216:=rfl;exact wpAny_updateSeq ho rfl (h _ T) (by show vs.length<=_;omega) (by simp;omega)
theorem V6{a b:Nat}(hW:yX w pat code)(hp:Prog (PP w) h)(ho:h.get? l=some (listO vs e))(hz:vs.length<=100)(hxl:x.length<=1000)(hs:srch code x done=some (some (a,b)))(hab:Nat.blt a b=true)(hd:done<a) (Hn:∀h' tk' t1,Turned l (listO (vs++[.str ⟨⟨(x.drop done).take (a - done)⟩⟩ t1,.str repl tr]) (e+2)) h h'->codeAny (model pw w) A (loopC pat x tx repl tr (n+1) b l) R ⟨h',g,dr,tk',os⟩): codeAny (model pw w) A (loopC pat x tx repl tr n done l) R ⟨h,g,dr,tk,os⟩:=by
 refine YN Zy ?_;show wpAny _ _ (reWholeTarget (.ref pat) (.str ⟨⟨x⟩⟩ tx) >>= _) _ _ _;refine wpAny_bind (Zb (tk:=tk) hp 40 _ 0 (hW tk x tx) ?_);dsimp only;rw [if_pos (by decide)];refine wpAny_bind (wpAny_of_eq (a:=()) rfl ?_);rw [if_neg (by simp)];refine wpAny_bind (Yh hs ?_ (fun hx=>nomatch hx));intro m hm;injection hm with hm
 injection hm with h1 h2
 subst h1 h2;dsimp only;rw [if_pos (by exact hd)];refine wpAny_bind ?_;show wpAny _ _ (mkStr ⟨(⟨x⟩:Array Nat).extract done m.start⟩) _ _ _;refine wpAny_mkStr ?_ ?_
 ·refine wpAny_bind (qY ho (Nat.le_trans hz (by decide)) fun h1 T1=>?_);rw [if_pos (by decide)];refine wpAny_bind (wpAny_pure ?_);rw [if_pos (by rfl)];refine wpAny_bind (qY T1.2.1 (by rw [List.length_append];show vs.length+1<=200;omega) fun h2 T2=>?_);have hb:(m.handed==m.start)=false:=beq_eq_false_iff_ne.mpr (Nat.ne_of_gt (by have:=hab;simpa [Nat.blt_eq] using this));rw [hb];refine wpAny_pure (And.intro (loop_quiet pat x tx repl tr (n+1) (m.handed:Nat) l) ?_);refine Hn h2 (tk+0+1) (tk+0) ⟨T2.1.trans T1.1,?_,fun b hb=>(T2.2.2 b hb).trans (T1.2.2 b hb)⟩;have ex:(⟨x⟩:Array Nat).extract done m.start=⟨(x.drop done).take (m.start - done)⟩:=by simp
  have:=T2.2.1;rw [ex,List.append_assoc] at this;exact this
 ·have ex:(⟨x⟩:Array Nat).extract done m.start=⟨(x.drop done).take (m.start - done)⟩:=by simp
  rw [ex];show ((x.drop done).take (m.start - done)).length<=sizeLine;rw [List.length_take,List.length_drop];have:sizeLine=16777216:=rfl;omega
theorem G9{b:Nat}(hW:yX w pat code)(hp:Prog (PP w) h)(ho:h.get? l=some (listO vs e))(hz:vs.length<=100)(hs:srch code x done=some (some (done,b)))(hab:Nat.blt done b=true) (Hn:∀h' tk',Turned l (listO (vs++[.str repl tr]) (e+1)) h h'->codeAny (model pw w) A (loopC pat x tx repl tr (n+1) b l) R ⟨h',g,dr,tk',os⟩): codeAny (model pw w) A (loopC pat x tx repl tr n done l) R ⟨h,g,dr,tk,os⟩:=by
 refine YN Zy ?_;show wpAny _ _ (reWholeTarget (.ref pat) (.str ⟨⟨x⟩⟩ tx) >>= _) _ _ _;refine wpAny_bind (Zb (tk:=tk) hp 40 _ 0 (hW tk x tx) ?_);dsimp only;rw [if_pos (by decide)];refine wpAny_bind (wpAny_of_eq (a:=()) rfl ?_);rw [if_neg (by simp)];refine wpAny_bind (Yh hs ?_ (fun hx=>nomatch hx));intro m hm;injection hm with hm
 injection hm with h1 h2
 subst h2;dsimp only;rw [if_neg (show¬((done:Int).toNat<m.start) by rw [←h1];exact Nat.lt_irrefl _)];rw [if_pos (by decide)];refine wpAny_bind (wpAny_pure ?_);rw [if_pos (by rfl)];refine wpAny_bind (qY ho (Nat.le_trans hz (by decide)) fun h2 T2=>?_);have hb:(m.handed==m.start)=false:=beq_eq_false_iff_ne.mpr (Nat.ne_of_gt (by rw [←h1];have:=hab;simpa [Nat.blt_eq] using this));rw [hb];refine wpAny_pure (And.intro (loop_quiet pat x tx repl tr (n+1) (m.handed:Nat) l) ?_);exact Hn h2 (tk+0) T2
end
end

section
open PySem.Builtin.Re
theorem MM(ps:List Str):∀acc:Array Nat,(ps.foldl (fun acc p=>acc++(⟨⟨[]⟩⟩:Str).cps++p.cps) acc).toList=acc.toList++(ps.map fun p=>p.cps.toList).flatten:=by
 induction ps with
 | nil=>intro acc;simp
 | cons p ps ih=>intro acc;rw [List.foldl_cons,ih];simp
theorem Uc(ps:List Str):(Builtin.Str.glued ⟨⟨[]⟩⟩ ps).cps.toList=(ps.map fun p=>p.cps.toList).flatten:=by
 cases ps with
 | nil=>rfl
 | cons p ps=>
  show (ps.foldl (fun acc p=>acc++(⟨⟨[]⟩⟩:Str).cps++p.cps) p.cps).toList=_;rw [MM];rfl
theorem Bx(ps:List Str):∀k:Nat,ps.foldl (fun (a:Nat) (p:Str)=>a+p.length+(⟨⟨[]⟩⟩:Str).length) k=k+(ps.map fun p=>p.cps.toList).flatten.length:=by
 induction ps with
 | nil=>intro k;simp
 | cons p ps ih=>
  intro k;rw [List.foldl_cons,ih];have:p.length=p.cps.toList.length:=by simp [Str.length]
  have e0:(⟨⟨[]⟩⟩:Str).length=0:=rfl;rw [this,e0];simp;lia
section
variable{w:World}{A:Around}{E:Value->Shared->Prop}{h:Heap}{g:Array GenState}{dr:Drawn}{os:OsState}{tk:Nat}
theorem Nw{Q:Value->Shared->Prop}{l:Addr}{ps:List (Str×Tok)}{e tj:Nat}(ho:h.get? l=some (listO (strValues ps) e))(h2:2<=ps.length)(hl:(ps.map fun p=>p.1.cps.toList).flatten.length<=1000) (hq:Q (.str ⟨⟨(ps.map fun p=>p.1.cps.toList).flatten⟩⟩ tk) ⟨h,g,dr,tk+1,os⟩):
  wpAny (model pw w) A (call (.builtin "str.join") [.str ⟨⟨[]⟩⟩ tj,.ref l]) Q E ⟨h,g,dr,tk,os⟩:=by
 have hz:sizeLine=16777216:=rfl;have e1:((ps.map (·.1)).map fun p=>p.cps.toList)=ps.map fun p=>p.1.cps.toList:=by rw [List.map_map];rfl
 refine call_meets F.slot_str_join (typeIs_str _ _ _) F.entry_str_join (F.args_str_join_2 _ _) (meets_str_join_list ⟨⟨[]⟩⟩ tj l ps ?_) ⟨XM ho,?_⟩
 ·rw [←Array.foldl_toList];have:=Bx (ps.map (·.1)) 0;simp only [Builtin.Str.tooLong,decide_eq_false_iff_not];rw [e1] at this;rw [this];omega
 ·cases ps with
  | nil=>exact absurd h2 (by simp)
  | cons p ps=>cases ps with
  | nil=>exact absurd h2 (by simp)
  | cons q r=>
   show _/\_;have eg:Builtin.Str.glued ⟨⟨[]⟩⟩ ((p::q::r).map (·.1))=⟨⟨((p::q::r).map fun p=>p.1.cps.toList).flatten⟩⟩:=QX (by rw [Uc,e1]);rw [eg];refine ⟨?_,hq⟩;show ((p::q::r).map fun p=>p.1.cps.toList).flatten.length<=_;omega
variable{R:Result->Shared->Prop}{pat:Addr}{code x:List Nat}{tx tr:Nat}{repl:Str}{n:Int}{done:Nat}{l:Addr}{ps:List (Str×Tok)}{e:Nat}
theorem V4(hW:yX w pat code)(hp:Prog (PP w) h)(ho:h.get? l=some (listO (strValues ps) e))(hz:ps.length<=100)(h1:1<=ps.length)(hxl:x.length<=1000)(hs:srch code x done=some none)(hd:done<x.length) (hl:((ps.map fun p=>p.1.cps.toList)++[x.drop done]).flatten.length<=1000) (Hn:∀h' tk' tz o,Turned l o h h'->R (.ok (.ret (.str ⟨⟨((ps.map fun p=>p.1.cps.toList)++[x.drop done]).flatten⟩⟩ tz))) ⟨h',g,dr,tk',os⟩): codeAny (model pw w) A (loopC pat x tx repl tr n done l) R ⟨h,g,dr,tk,os⟩:=by
 refine YN Zy ?_;show wpAny _ _ (reWholeTarget (.ref pat) (.str ⟨⟨x⟩⟩ tx) >>= _) _ _ _;refine wpAny_bind (Zb (tk:=tk) hp 40 _ 0 (hW tk x tx) ?_);dsimp only;rw [if_pos (by decide)];refine wpAny_bind (wpAny_of_eq (a:=()) rfl ?_);rw [if_neg (by simp)];refine wpAny_bind (Yh hs (fun _ hx=>nomatch hx) ?_);intro _;dsimp only;rw [if_pos (by exact hd)];refine wpAny_bind ?_;show wpAny _ _ (mkStr ⟨(⟨x⟩:Array Nat).extract done x.length⟩) _ _ _;have ex:(⟨x⟩:Array Nat).extract done x.length=⟨x.drop done⟩:=by
  simp
  try exact List.take_of_length_le (by simp)
 rw [ex];have hsz:sizeLine=16777216:=rfl;refine wpAny_mkStr ?_ (by show (x.drop done).length<=_;rw [List.length_drop];omega);refine wpAny_bind (qY ho (by simp only [strValues,List.length_map];lia) fun h1 T1=>?_);refine wpAny_bind ?_;show wpAny _ _ (mkStr ⟨(⟨x⟩:Array Nat).extract 0 0⟩) _ _ _;have e0:(⟨x⟩:Array Nat).extract 0 0=⟨[]⟩:=by simp
 rw [e0];refine wpAny_mkStr ?_ (Nat.zero_le _);refine wpAny_bind (wpAny_seqItems T1.2.1 rfl ?_);dsimp only;rw [if_neg (by simp)];refine wpAny_bind ?_;have T1':h1.get? l=some (listO (strValues (ps++[(⟨⟨x.drop done⟩⟩,tk+0)])) (e+1)):=by
  have:=T1.2.1;rw [strValues,List.map_append];exact this
 have em:((ps++[((⟨⟨x.drop done⟩⟩:Str),tk+0)]).map fun p=>p.1.cps.toList)=(ps.map fun p=>p.1.cps.toList)++[x.drop done]:=by rw [List.map_append];rfl
 refine Nw T1' (by simp;omega) (by rw [em];exact hl) ?_;rw [em];rw [if_neg (by decide)];exact wpAny_pure (Hn h1 _ _ _ T1)
theorem V5(hW:yX w pat code)(hp:Prog (PP w) h)(ho:h.get? l=some (listO (strValues ps) e))(h1:2<=ps.length)(hs:srch code x done=some none)(hd: ¬done<x.length) (hl:(ps.map fun p=>p.1.cps.toList).flatten.length<=1000) (Hn:∀tk' tz,R (.ok (.ret (.str ⟨⟨(ps.map fun p=>p.1.cps.toList).flatten⟩⟩ tz))) ⟨h,g,dr,tk',os⟩): codeAny (model pw w) A (loopC pat x tx repl tr n done l) R ⟨h,g,dr,tk,os⟩:=by
 refine YN Zy ?_;show wpAny _ _ (reWholeTarget (.ref pat) (.str ⟨⟨x⟩⟩ tx) >>= _) _ _ _;refine wpAny_bind (Zb (tk:=tk) hp 40 _ 0 (hW tk x tx) ?_);dsimp only;rw [if_pos (by decide)];refine wpAny_bind (wpAny_of_eq (a:=()) rfl ?_);rw [if_neg (by simp)];refine wpAny_bind (Yh hs (fun _ hx=>nomatch hx) ?_);intro _;dsimp only;rw [if_neg (by exact hd)];refine wpAny_bind ?_;show wpAny _ _ (mkStr ⟨(⟨x⟩:Array Nat).extract 0 0⟩) _ _ _;have e0:(⟨x⟩:Array Nat).extract 0 0=⟨[]⟩:=by simp
 rw [e0];refine wpAny_mkStr ?_ (Nat.zero_le _);refine wpAny_bind (wpAny_seqItems ho rfl ?_);dsimp only;have hne:strValues ps≠[]:=by
  intro hx;have:ps.length=0:=by rw [←List.length_map ];exact congrArg List.length hx
  omega
 rw [if_neg (by simpa using hne)];refine wpAny_bind ?_;refine Nw ho h1 hl ?_;rw [if_neg (by decide)];exact wpAny_pure (Hn _ _)
end
end

section
open PySem.Builtin.Re
noncomputable def QW(code text repl:List Nat):Nat->Nat->List (List Nat)->Option (List (List Nat))
 | 0,_,_=>none
 | f+1,done,acc=>match srch code text done with
  | none=>none
  | some none=>some (acc++cond (Nat.blt done text.length) [text.drop done] [])
  | some (some (a,b))=>match Nat.blt a b&&Nat.ble done a with
   | false=>none
   | true=>QW code text repl f b (acc++(cond (Nat.blt done a) [(text.drop done).take (a - done)] []++[repl]))
theorem Turned.trans{a:Addr}{o o':Obj}{h h' h'':Heap}(T:Turned a o h h')(T':Turned a o' h' h''):Turned a o' h h'':=⟨T'.1.trans T.1,T'.2.1,fun b hb=>(T'.2.2 b hb).trans (T.2.2 b hb)⟩
theorem Prog.turned{P:Params}{h h':Heap}{a:Addr}{o:Obj}(hp:Prog P h)(T:Turned a o h h')(ha:265<=a):Prog P h':=
 ⟨fun b ob hb=>by
  rw [T.2.2 b (fun hx=>by subst hx;rw [qh (.inl ha)] at hb;cases hb)];exact hp.prog b ob hb,by rw [T.1];exact hp.low⟩
section
variable{w:World}{A:Around}{R:Result->Shared->Prop}{g:Array GenState}{dr:Drawn}{os:OsState}{pat:Addr}{code x:List Nat}{tx tr:Nat}{repl:List Nat}{l:Addr}{out:List (List Nat)}
theorem JA(hW:yX w pat code)(hla:265<=l)(hxl:x.length<=1000)(ho2:2<=out.length)(hol:out.flatten.length<=1000):
  ∀(f done:Nat) (n:Int) (acc:List (List Nat)) (ps:List (Str×Tok)) (e:Nat) (h:Heap) (tk:Nat),Prog (PP w) h->h.get? l=some (listO (strValues ps) e)->(ps.map fun p=>p.1.cps.toList)=acc->ps.length+2*f<=100->
   QW code x repl f done acc=some out->
   (∀h' tk' tz o,Prog (PP w) h'->Turned l o h h'->R (.ok (.ret (.str ⟨⟨out.flatten⟩⟩ tz))) ⟨h',g,dr,tk',os⟩)-> codeAny (model pw w) A (loopC pat x tx ⟨⟨repl⟩⟩ tr n done l) R ⟨h,g,dr,tk,os⟩
 | 0,_,_,_,_,_,_,_=>by intro _ _ _ _ hs;cases hs
 | f+1,done,n,acc,ps,e,h,tk=>by
  intro hp ho ha hb hs Hn;have hlen:acc.length=ps.length:=by rw [←ha,List.length_map]
  have hvl:(strValues ps).length=ps.length:=by rw [strValues,List.length_map]
  rw [QW] at hs
  match hsr:srch code x done with
  | none=>rw [hsr] at hs;cases hs
  | some none=>
   rw [hsr] at hs;injection hs with hs
   by_cases hd:done<x.length
   ·have hbl:Nat.blt done x.length=true:=by simpa [Nat.blt_eq] using hd
    rw [hbl] at hs;have hs':acc++[x.drop done]=out:=hs;rw [←ha] at hs';refine V4 hW hp ho (by lia) ?_ hxl hsr hd (by rw [hs'];exact hol) fun h' tk' tz o T=>?_
    ·rw [←hs',List.length_append,List.length_map] at ho2;have:[x.drop done].length=1:=rfl;lia
    ·rw [hs'];exact Hn h' tk' tz o (hp.turned T hla) T
   ·have hbl:Nat.blt done x.length=false:=by
     cases hq:Nat.blt done x.length with
     | false=>rfl
     | true=>exact absurd (by simpa [Nat.blt_eq] using hq) hd
    rw [hbl] at hs;have hs':acc++[]=out:=hs;rw [List.append_nil] at hs';refine V5 hW hp ho (by rw [←hlen,hs'];exact ho2) hsr hd (by rw [ha,hs'];exact hol) fun tk' tz=>?_;rw [ha,hs'];exact Hn h tk' tz _ hp ⟨rfl,ho,fun _ _=>rfl⟩
  | some (some (a,b))=>
   rw [hsr] at hs;dsimp only at hs;cases hq:(Nat.blt a b&&Nat.ble done a) with
   | false=>rw [hq] at hs;cases hs
   | true=>
    rw [hq] at hs;dsimp only at hs;rw [Bool.and_eq_true] at hq
    by_cases hd:done<a
    ·have hbl:Nat.blt done a=true:=by simpa [Nat.blt_eq] using hd
     rw [hbl] at hs;refine V6 hW hp ho (by omega) hxl hsr hq.1 hd fun h' tk' t1 T=>?_;have ev2:strValues ps++[Value.str ⟨⟨(x.drop done).take (a - done)⟩⟩ t1,.str ⟨⟨repl⟩⟩ tr]=strValues (ps++[(⟨⟨(x.drop done).take (a - done)⟩⟩,t1),(⟨⟨repl⟩⟩,tr)]):=by
      simp [strValues]
     rw [ev2] at T;refine JA hW hla hxl ho2 hol f b (n+1) _ _ _ h' tk' (hp.turned T hla) T.2.1 ?_ ?_ hs fun h'' tk'' tz o hp'' T'=>Hn h'' tk'' tz o hp'' (T.trans T')
     ·rw [List.map_append,ha];rfl
     ·rw [List.length_append];simp only [List.length_cons,List.length_nil];omega
    ·have hbl:Nat.blt done a=false:=by
      cases hz:Nat.blt done a with
      | false=>rfl
      | true=>exact absurd (by simpa [Nat.blt_eq] using hz) hd
     have hda:a=done:=by have:=Nat.le_of_ble_eq_true hq.2;lia
     rw [hbl] at hs;subst hda;refine G9 hW hp ho (by omega) hsr hq.1 fun h' tk' T=>?_;have ev2:strValues ps++[Value.str ⟨⟨repl⟩⟩ tr]=strValues (ps++[(⟨⟨repl⟩⟩,tr)]):=by
      simp [strValues]
     rw [ev2] at T;refine JA hW hla hxl ho2 hol f b (n+1) _ _ _ h' tk' (hp.turned T hla) T.2.1 ?_ ?_ hs fun h'' tk'' tz o hp'' T'=>Hn h'' tk'' tz o hp'' (T.trans T')
     ·rw [List.map_append,ha];rfl
     ·rw [List.length_append];simp only [List.length_cons,List.length_nil];omega
end
end

section
variable(b1 b2:Bool)(P:Params)
def Rg:List Nat:=[0,0,0,0,2]
section
variable(n t:Nat)(x:List Nat)(tx tr:Nat)
def Cd:Out:=
 let xc:Code:=.call (.builtin "re.Pattern.sub") ⟨[.ref 57,.str ⟨⟨[13,10]⟩⟩ tr,.str ⟨⟨x⟩⟩ tx],[]⟩;ev (bS b1 b2 P n t) 11 Rg [] xc (denF xc) [] 0 [] 0 0 [] []
theorem Th:Seg (Cd b1 b2 P n t x tx tr) (.again) (loopC 57 x tx ⟨⟨[13,10]⟩⟩ tr 0 (0:Nat) (n+0)) 1 0 [] [0] ([(n+0,listO (strValues []) 0)]):=sO
def Rh:List Nat:=[0,0,0,0,2]
def Ce:Out:=
 let xc:Code:=.call (.builtin "re.Pattern.sub") ⟨[.ref 52,.str ⟨⟨[46,46]⟩⟩ tr,.str ⟨⟨x⟩⟩ tx],[]⟩;ev (bS b1 b2 P n t) 11 Rh [] xc (denF xc) [] 0 [] 0 0 [] []
theorem Ti:Seg (Ce b1 b2 P n t x tx tr) (.again) (loopC 52 x tx ⟨⟨[46,46]⟩⟩ tr 0 (0:Nat) (n+0)) 1 0 [] [0] ([(n+0,listO (strValues []) 0)]):=sO
def E5:List Nat:=dO 19 0xc0800000000000000000000000204000
def Cj:Out:=
 let xc:Code:=.call (.ref 64) ⟨[.str ⟨⟨x⟩⟩ tx],[]⟩;ev (bS b1 b2 P n t) 39 E5 [] xc (XQ xc) [] 0 [] 0 0 [] []
theorem HN:Seg (Cj b1 b2 P n t x tx) .stop (.call (.builtin "re.Pattern.sub") ⟨[.ref 57,.str ⟨⟨[13,10]⟩⟩ 365,.str ⟨⟨x⟩⟩ tx],[]⟩) 1 2 [] [0] ([(n+0,frameO [Ef P (t+0) (.str ⟨⟨x⟩⟩ tx)] 1)]):=sO
end
end

section
variable(b1 b2:Bool)(P:Params)
def E4:List Nat:=[3]
section
variable(n0 t0 n t:Nat)(x:List Nat)(tx:Nat)(y:List Nat)(ty:Nat)
abbrev Vh n0(P:Params) t0 x tx:=((n0+0,frameO [Ef P (t0+0) (.str ⟨⟨x⟩⟩ tx)] 1):Xp)
def Ci:Out:=let xr:=(Cj b1 b2 P n0 t0 x tx).res;ev (bS b1 b2 P n t) 8 E4 [] xr.c (xr.k (.ok (.ret (.str ⟨⟨y⟩⟩ ty)))) xr.K xr.d [(Vh n0 P t0 x tx)] 0 0 [] []
theorem HM:Seg (Ci b1 b2 P n0 t0 n t x tx y ty) .stop (.call (.builtin "re.Pattern.sub") ⟨[.ref 52,.str ⟨⟨[46,46]⟩⟩ (t0+1),.str ⟨⟨y⟩⟩ ty],[]⟩) 0 0 [] [0] ([(Vh n0 P t0 x tx)]):=sO
end
end

section
variable(b1 b2:Bool)(P:Params)
def EZ:List Nat:=[]
section
variable(n0 t0 n1 t1 n t:Nat)(x:List Nat)(tx:Nat)(y:List Nat)(ty:Nat)(z:List Nat)(tz:Nat)
def quo2:Out:=let xr:=(Ci b1 b2 P n0 t0 n1 t1 x tx y ty).res;ev (bS b1 b2 P n t) 7 EZ [] xr.c (xr.k (.ok (.ret (.str ⟨⟨z⟩⟩ tz)))) xr.K xr.d [(Vh n0 P t0 x tx)] 0 0 [] []
theorem HK:Seg (quo2 b1 b2 P n0 t0 n1 t1 n t x tx y ty z tz) (.flow (.ret (.str ⟨⟨z⟩⟩ tz))) (.call .none {}) 0 0 [] [0] ([(Vh n0 P t0 x tx)]):=sO
end
end

section
open PySem.Builtin.Re
section
variable{w:World}{A:Around}{R:Result->Shared->Prop}{g:Array GenState}{dr:Drawn}{os:OsState}{h:Heap}{tk:Nat}{x:List Nat}{tx tr:Nat}{out:List (List Nat)}
theorem V7(rm:Room 0 A)(hp:Prog (PP w) h)(hxl:x.length<=1000)(ho2:2<=out.length)(hol:out.flatten.length<=1000)(hs:QW code2 x [13,10] 20 0 []=some out) (Hn:∀h' tk' tz,Prog (PP w) h'->Ext [] h h'->R (.ok (.ret (.str ⟨⟨out.flatten⟩⟩ tz))) ⟨h',g,dr,tk',os⟩): codeAny (model pw w) A (.call (.builtin "re.Pattern.sub") ⟨[.ref 57,.str ⟨⟨[13,10]⟩⟩ tr,.str ⟨⟨x⟩⟩ tx],[]⟩) R ⟨h,g,dr,tk,os⟩:=by
 refine Xi ?_;refine y9 (k:=0) (nw:=[(h.objs.size+0,listO (strValues []) 0)]) (l1:=[]) (l1':=[]) (ro:=[]) (Ev:=[]) (Th (W1 w) (W2 w) w.params h.objs.size tk x tx tr) rfl rfl Xn (loop_quiet _ _ _ _ _ _ _ _) rm hp (Has.nil h) (Has.nil h) (fun _ hx=>hx) (Nat.le_refl _) trivial (by decide) rfl (fun p hx=>by rw [List.mem_singleton.mp hx];exact Nat.le_refl _) ?_;intro h1 hp1 S X;rw [Xt];refine JA (DN w) (Nat.le_trans hp.low (Nat.le_refl _)) hxl ho2 hol 20 0 0 [] [] 0 h1 _ hp1 (S.own _ (.head _)) rfl (by decide) hs ?_;intro h' tk' tz o hp' T;refine Hn h' tk' tz hp' ⟨by rw [T.1];exact X.size,fun b ob e hb=>?_⟩;rw [T.2.2 b (Nat.ne_of_lt (Heap.lt_size e))];exact X.keep b ob e hb
theorem V8(rm:Room 0 A)(hp:Prog (PP w) h)(hxl:x.length<=1000)(ho2:2<=out.length)(hol:out.flatten.length<=1000)(hs:QW J7 x [46,46] 20 0 []=some out) (Hn:∀h' tk' tz,Prog (PP w) h'->Ext [] h h'->R (.ok (.ret (.str ⟨⟨out.flatten⟩⟩ tz))) ⟨h',g,dr,tk',os⟩): codeAny (model pw w) A (.call (.builtin "re.Pattern.sub") ⟨[.ref 52,.str ⟨⟨[46,46]⟩⟩ tr,.str ⟨⟨x⟩⟩ tx],[]⟩) R ⟨h,g,dr,tk,os⟩:=by
 refine Xi ?_;refine y9 (k:=0) (nw:=[(h.objs.size+0,listO (strValues []) 0)]) (l1:=[]) (l1':=[]) (ro:=[]) (Ev:=[]) (Ti (W1 w) (W2 w) w.params h.objs.size tk x tx tr) rfl rfl Xn (loop_quiet _ _ _ _ _ _ _ _) rm hp (Has.nil h) (Has.nil h) (fun _ hx=>hx) (Nat.le_refl _) trivial (by decide) rfl (fun p hx=>by rw [List.mem_singleton.mp hx];exact Nat.le_refl _) ?_;intro h1 hp1 S X;rw [Xt];refine JA (DO w) (Nat.le_trans hp.low (Nat.le_refl _)) hxl ho2 hol 20 0 0 [] [] 0 h1 _ hp1 (S.own _ (.head _)) rfl (by decide) hs ?_;intro h' tk' tz o hp' T;refine Hn h' tk' tz hp' ⟨by rw [T.1];exact X.size,fun b ob e hb=>?_⟩;rw [T.2.2 b (Nat.ne_of_lt (Heap.lt_size e))];exact X.keep b ob e hb
end
end

section
open PySem.Builtin.Re
section
variable{w:World}{A:Around}{R:Result->Shared->Prop}{g:Array GenState}{dr:Drawn}{os:OsState}{h:Heap}{tk:Nat}{x:List Nat}{tx:Nat}{o1 o2:List (List Nat)}
abbrev MQ(h:Heap)(w:World) tk x tx:=((h.objs.size+0,frameO [Ef w.params (tk+0) (.str ⟨⟨x⟩⟩ tx)] 1):Xp)
theorem To(rm:Room 20 A)(hp:Prog (PP w) h)(hxl:x.length<=1000)(h2:2<=o2.length)(hl2:o2.flatten.length<=1000)(hs2:QW code2 x [13,10] 20 0 []=some o2) (h1:2<=o1.length)(hl1:o1.flatten.length<=1000)(hs1:QW J7 o2.flatten [46,46] 20 0 []=some o1) (Hn:∀h' tk' tz,Prog (PP w) h'->Ext [] h h'->R (.ok (.ret (.str ⟨⟨o1.flatten⟩⟩ tz))) ⟨h',g,dr,tk',os⟩): codeAny (model pw w) A (.call (.ref 64) ⟨[.str ⟨⟨x⟩⟩ tx],[]⟩) R ⟨h,g,dr,tk,os⟩:=by
 refine XG (Nat.le_trans (lar) rm.d) (by rw [Yd];exact Nat.zero_le _) ?_;refine yr (k:=0) (nw:=[(MQ h w tk x tx)]) (l1:=[]) (l1':=[]) (ro:=[]) (Ev:=[]) (HN (W1 w) (W2 w) w.params h.objs.size tk x tx) rfl rfl Xn rm hp (Has.nil h) (Has.nil h) (fun _ hx=>hx) (Nat.le_refl _) trivial (by decide) rfl (fun p hx=>by rw [List.mem_singleton.mp hx];exact Nat.le_refl _) ?_;intro ha hpa Sa Xa _ k1 k2 k3;refine V7 k3 hpa hxl h2 hl2 hs2 ?_;intro hb tkb ty hpb Xb;have Sb:Has hb ([(MQ h w tk x tx)]++[]):=Has.ext Sa Xb;refine yr (k:=0) (nw:=[]) (l1:=[]) (l1':=[]) (ro:=[(MQ h w tk x tx)]) (Ev:=[(MQ h w tk x tx)]) (HM (W1 w) (W2 w) w.params h.objs.size tk hb.objs.size tkb x tx o2.flatten ty) rfl rfl Xn rm hpb Sb Sb (fun _ hx=>hx) k2 k1 (by decide) rfl (fun _ hx=>(nomatch hx)) ?_;intro hc hpc Sc Xc _ k1' k2' k3';refine V8 k3' hpc hl2 h1 hl1 hs1 ?_;intro hd tkd tz hpd Xd;have Sd:Has hd ([]++([]++[(MQ h w tk x tx)])):=Has.ext Sc Xd;refine Yo (k:=20) (nw:=[]) (l1:=[]) (l1':=[]) (ro:=[(MQ h w tk x tx)]) (Ev:=[(MQ h w tk x tx)]) (HK (W1 w) (W2 w) w.params h.objs.size tk hb.objs.size tkb hd.objs.size tkd x tx o2.flatten ty o1.flatten tz) rfl rfl Xn rm hpd Sd Sd (fun _ hx=>hx) k2' k1' (by decide) rfl (fun _ hx=>(nomatch hx)) ?_;intro he hpe Se Xe;have nn:∀a∈([]:List Addr),a∈([]:List Addr)\/h.objs.size<=a:=fun a ha=>(nomatch ha);exact Hn he _ tz hpe ((((Xa.trans Xb nn).trans Xc nn).trans Xd nn).trans Xe nn)
end
end

section
open PySem.Builtin.Re PySem.Sre
noncomputable def YT(m:M):Option (Option (Nat×Nat)):=match m.outcome with
 | some .matched=>some (some (m.start,m.handed))
 | some .failed=>some none
 | _=>none
theorem Xv{n:Nat}{m:M}{r:Option (Option (Nat×Nat))}(h:m.outcome.isSome=false)(k:YT (M.runFor n m.step)=r):YT (M.runFor (n+1) m)=r:=by
 show YT (if m.outcome.isSome=true then m else _)=r;rw [if_neg (by rw [h];exact Bool.false_ne_true)];exact k
theorem V9{m:M}(h:m.outcome.isSome=false)(h1:m.answer=none)(h2:Nat.blt m.pc m.code.size=true):m.step=m.exec:=by
 unfold M.step;rw [if_neg (by rw [h];exact Bool.false_ne_true),h1];dsimp only;rw [if_pos (by simpa [Nat.blt_eq] using h2)]
theorem F4{m:M}{p w:Nat}{c:Bool}(h3:ops[m.word 0]? =some .LITERAL)(hp:m.pos=p)(hl:p<m.lim)(hw:m.word 1=w)(hc:(m.text.getD p 0==w)=c):
  m.exec=cond c {m with seen:=m.seen.add (m.word 0),pc:=m.pc+itemWidth m.code m.pc,pos:=p+1} ({m with seen:=m.seen.add (m.word 0)}.say false):=by
 subst hp hw;unfold M.exec;rw [h3];dsimp only;rw [if_neg (Nat.not_le.mpr hl)];have ha:accepts m.code m.pc (m.text.getD m.pos 0) (m.seen.add (m.word 0))=.ok (c,m.seen.add (m.word 0)):=by
  unfold accepts;have h3':ops[m.code.getD m.pc 0]? =some .LITERAL:=h3;rw [h3'];dsimp only;rw [←hc];rfl
 rw [ha];cases c<;>rfl
theorem F5{m:M}{p:Nat}{c:Bool}(h3:ops[m.word 0]? =some .AT)(hw:m.word 1=1)(hp:m.pos=p)(hc:(p==0||m.text.getD (p - 1) 0==10)=c):
  m.exec=cond c {m with seen:=(m.seen.add (m.word 0)).add (43+1),pc:=m.pc+2} ({m with seen:=(m.seen.add (m.word 0)).add (43+1)}.say false):=by
 subst hp;unfold M.exec;rw [h3];dsimp only;have hi:M.isAt {m with seen:=m.seen.add (m.word 0)} (m.word 1)=.ok c:=by
  rw [hw];unfold M.isAt;rw [←hc]
  rfl
 have hw':M.word {m with seen:=m.seen.add (m.word 0)} 1=1:=hw;rw [hw',←hw,hi];cases c<;>rw [hw]<;>rfl
theorem JT{m:M}{p:Nat}(h3:ops[m.word 0]? =some .LITERAL)(hp:m.pos=p)(hl:m.lim<=p):m.exec={m with seen:=m.seen.add (m.word 0)}.say false:=by
 subst hp;unfold M.exec;rw [h3];dsimp only;rw [if_pos hl]
theorem Zn{n:Nat}{m m':M}{r:Option (Option (Nat×Nat))}(h:m.outcome.isSome=false)(h1:m.answer=none)(h2:Nat.blt m.pc m.code.size=true)(e:m.exec=m')(k:YT (M.runFor n m')=r):YT (M.runFor (n+1) m)=r:=
 Xv h (by rw [V9 h h1 h2,e];exact k)
theorem Zo{n:Nat}{m:M}{r:Option (Option (Nat×Nat))}(h:m.outcome.isSome=true)(k:YT m=r):YT (M.runFor n m)=r:=by rw [Zf n m h];exact k
noncomputable def S1(x:List Nat)(s:Nat)(first:Bool)(sn:Sre.Seen):M:=
 {code:=⟨J7⟩,text:=⟨x⟩,lim:=x.length,start:=s,lastStart:=x.length,pc:=5,pos:=s,handed:=s,outermost:=first,marks:=⟨[]⟩,frames:=[{wait:=.nextStart,pc:=5,pos:=s,outermost:=first}],weight:=1,seen:=sn}
noncomputable def C9(x:List Nat)(s:Nat):Bool:=s==0||(⟨x⟩:Array Nat).getD (s - 1) 0==10
noncomputable def Qt(x:List Nat):Nat->Nat->Option (Nat×Nat)
 | 0,_=>none
 | k+1,s=>cond (C9 x s&&(⟨x⟩:Array Nat).getD s 0==46) (some (s,s+1)) (Qt x k (s+1))
theorem NF(x:List Nat)(s:Nat)(hs:s<x.length)(first:Bool)(sn:Sre.Seen)(m:M)(hm:m={S1 x s first sn with pc:=m.pc,answer:=some false}):m.step=S1 x (s+1) false sn:=by
 rw [hm];have e:M.step {S1 x s first sn with pc:=m.pc,answer:=some false}=ite (s<x.length) (S1 x (s+1) false sn) (({S1 x s first sn with frames:=[],weight:=0}:M).say false):=by kernel_rfl
 rw [e,if_pos hs]
theorem qD(x:List Nat)(first:Bool)(sn:Sre.Seen)(m:M)(hm:m={S1 x x.length first sn with pc:=m.pc,answer:=some false}):m.step=({S1 x x.length first sn with frames:=[],weight:=0}:M).say false:=by
 rw [hm];have e:M.step {S1 x x.length first sn with pc:=m.pc,answer:=some false}=ite (x.length<x.length) (S1 x (x.length+1) false sn) (({S1 x x.length first sn with frames:=[],weight:=0}:M).say false):=by kernel_rfl
 rw [e,if_neg (Nat.lt_irrefl _)]
theorem go1(x:List Nat):∀(k s:Nat) (first:Bool) (sn:Sre.Seen) (n:Nat),s+k=x.length->3*k+6<=n->YT (M.runFor n (S1 x s first sn))=some (Qt x k s):=by
 intro k
 induction k with
 | zero=>
  intro s first sn n hs hn
  obtain ⟨n,rfl⟩:∃m,n=m+4:=⟨n - 4,by omega⟩;have hs':s=x.length:=by omega
  subst hs';refine Zn rfl rfl rfl (F5 (c:=C9 x x.length) rfl rfl rfl rfl) ?_;cases hat:C9 x x.length with
  | false=>
   refine Xv rfl ?_;rw [qD x first _ _ rfl];refine Xv rfl ?_;exact Zo rfl rfl
  | true=>
   refine Zn rfl rfl rfl (JT rfl rfl (Nat.le_refl _)) ?_;refine Xv rfl ?_;rw [qD x first _ _ rfl];refine Xv rfl ?_;exact Zo rfl rfl
 | succ k ih=>
  intro s first sn n hs hn
  obtain ⟨n,rfl⟩:∃m,n=m+5:=⟨n - 5,by omega⟩;have hs':s<x.length:=by omega
  refine Zn rfl rfl rfl (F5 (c:=C9 x s) rfl rfl rfl rfl) ?_;unfold Qt;cases hat:C9 x s with
  | false=>
   refine Xv rfl ?_;rw [NF x s hs' first _ _ rfl];exact ih (s+1) false _ (n+3) (by omega) (by omega)
  | true=>
   refine Zn rfl rfl rfl (F4 (c:=(⟨x⟩:Array Nat).getD s 0==46) rfl rfl hs' rfl rfl) ?_;cases hc:(⟨x⟩:Array Nat).getD s 0==46 with
   | false=>
    refine Xv rfl ?_;rw [NF x s hs' first _ _ rfl];exact ih (s+1) false _ (n+2) (by omega) (by omega)
   | true=>
    refine Xv rfl ?_;refine Xv (by cases first<;>rfl) ?_;refine Xv (by cases first<;>rfl) ?_;refine Zo (by cases first<;>rfl) ?_;cases first<;>rfl
theorem Cg(x:List Nat)(s:Nat)(hx:x.length<=60)(hs:s<=x.length):srch J7 x s=some (Qt x (x.length - s) s):=by
 have h0:srch J7 x s=YT (M.runFor 200 (forSearch ⟨J7⟩ ⟨x⟩ 0 s x.length false)):=rfl;rw [h0];have e:forSearch ⟨J7⟩ ⟨x⟩ 0 s x.length false=ite ((decide (s>x.length)||decide (x.length - s<1))=true) (({S1 x s true ((({}:Sre.Seen).add 14)) with frames:=[],weight:=0,lastStart:=0}:M).say false) (S1 x s true (({}:Sre.Seen).add 14)):=by kernel_rfl
 rw [e]
 by_cases h:s=x.length
 ·subst h;rw [if_pos (by simp)];rw [Nat.sub_self]
  rfl
 ·rw [if_neg (by simp;omega)];exact go1 x _ s true _ 200 (by omega) (by omega)
end

section
open PySem.Builtin.Re PySem.Sre
def isE(c:Nat):Bool:=c==10||c==13
noncomputable def EQ(x:List Nat):Nat->Nat->Option Nat
 | 0,_=>none
 | k+1,s=>cond (isE ((⟨x⟩:Array Nat).getD s 0)) (some s) (EQ x k (s+1))
theorem Eg(c:Nat)(sn:Sre.Seen):∃sn',inSet ⟨code2⟩ c 36 5 true sn=.ok (isE c,sn'):=by
 have e:inSet ⟨code2⟩ c 36 5 true sn=ite ((c==10)=true) (.ok (true,sn.add 16)) (ite ((c==13)=true) (.ok (true,(sn.add 16).add 16)) (.ok (false,((sn.add 16).add 16).add 0))):=by kernel_rfl
 rw [e];unfold isE;cases h1:c==10 with
 | true=>exact ⟨_,rfl⟩
 | false=>
  cases h2:c==13 with
  | true=>exact ⟨_,rfl⟩
  | false=>exact ⟨_,rfl⟩
theorem BY(m:M)(x:List Nat)(hc:m.code=⟨code2⟩)(hx:m.text=⟨x⟩)(hl:m.lim=x.length):∀(k s:Nat) (sn:Sre.Seen),s+k=x.length->∃sn',M.admitted m (k+1) s sn=.ok (EQ x k s,sn'):=by
 intro k
 induction k with
 | zero=>
  intro s sn hs;refine ⟨sn,?_⟩;unfold M.admitted;rw [if_pos (by rw [hl];omega)]
  rfl
 | succ k ih=>
  intro s sn hs;obtain ⟨sn1,h1⟩:=Eg ((⟨x⟩:Array Nat).getD s 0) sn;obtain ⟨sn2,h2⟩:=ih (s+1) sn1 (by lia);unfold M.admitted;rw [if_neg (by rw [hl];omega),hc,hx];have h1':inSet ⟨code2⟩ ((⟨x⟩:Array Nat).getD s 0) (⟨code2⟩:Array Nat).size 5 true sn=.ok (isE ((⟨x⟩:Array Nat).getD s 0),sn1):=h1;rw [h1'];unfold EQ;cases isE ((⟨x⟩:Array Nat).getD s 0) with
  | true=>exact ⟨sn1,rfl⟩
  | false=>exact ⟨sn2,h2⟩
noncomputable def S2(x:List Nat)(s:Nat)(sn:Sre.Seen):M:=
 {code:=⟨code2⟩,text:=⟨x⟩,lim:=x.length,start:=s,lastStart:=x.length,pc:=10,pos:=s,handed:=s,outermost:=true,marks:=⟨[]⟩,frames:=[{wait:=.nextStart,pc:=10,pos:=s,outermost:=true}],weight:=1,seen:=sn}
theorem YU{x:List Nat}{n:Nat}{m:M}{p w:Nat}{c:Bool}{r:Option (Option (Nat×Nat))}(h:m.outcome.isSome=false)(h1:m.answer=none)(h2:Nat.blt m.pc m.code.size=true)(h3:ops[m.word 0]? =some .LITERAL)(hx:m.text=⟨x⟩)(hp:m.pos=p)(hL:m.lim=x.length)(hw:m.word 1=w) (hc:((⟨x⟩:Array Nat).getD p 0==w)=c)(h0:0<w)
  (k:YT (M.runFor n (cond c {m with seen:=m.seen.add (m.word 0),pc:=m.pc+itemWidth m.code m.pc,pos:=p+1} ({m with seen:=m.seen.add (m.word 0)}.say false)))=r):YT (M.runFor (n+1) m)=r:=by
 by_cases hl:p<m.lim
 ·exact Zn h h1 h2 (F4 h3 hp hl hw (by rw [hx];exact hc)) k
 ·have hg:(⟨x⟩:Array Nat).getD p 0=0:=by
   rw [hL] at hl;simp only [Array.getD,List.size_toArray];rw [dif_neg hl]
  rw [hg] at hc;have hcf:c=false:=by
   rw [←hc];exact beq_eq_false_iff_ne.mpr (by omega)
  subst hcf;exact Zn h h1 h2 (JT h3 hp (by omega)) k
theorem go2n(x:List Nat)(s:Nat)(sn:Sre.Seen)(n:Nat)(hc:((⟨x⟩:Array Nat).getD s 0==10)=true):YT (M.runFor (n+20) (S2 x s sn))=some (some (s,s+1)):=by
 have hn:((⟨x⟩:Array Nat).getD s 0==13)=false:=by rw [eq_of_beq hc];rfl
 refine Xv (by kernel_rfl) ?_;refine YU (x:=x) (p:=s) (w:=13) (by kernel_rfl) (by kernel_rfl) (by kernel_rfl) (by kernel_rfl) (by kernel_rfl) (by kernel_rfl) (by kernel_rfl) (by kernel_rfl) hn (by decide) ?_;refine Xv (by kernel_rfl) ?_;refine YU (x:=x) (p:=s) (w:=10) (by kernel_rfl) (by kernel_rfl) (by kernel_rfl) (by kernel_rfl) (by kernel_rfl) (by kernel_rfl) (by kernel_rfl) (by kernel_rfl) hc (by decide) ?_;refine Xv (by kernel_rfl) ?_;refine Xv (by kernel_rfl) ?_;refine Xv (by kernel_rfl) ?_;refine Xv (by kernel_rfl) ?_;refine Xv (by kernel_rfl) ?_;exact Zo (by kernel_rfl) (by kernel_rfl)
theorem CH(x:List Nat)(s:Nat)(sn:Sre.Seen)(n:Nat)(hc:((⟨x⟩:Array Nat).getD s 0==13)=true)(hc2:((⟨x⟩:Array Nat).getD (s+1) 0==10)=true):YT (M.runFor (n+20) (S2 x s sn))=some (some (s,s+2)):=by
 refine Xv (by kernel_rfl) ?_;refine YU (x:=x) (p:=s) (w:=13) (by kernel_rfl) (by kernel_rfl) (by kernel_rfl) (by kernel_rfl) (by kernel_rfl) (by kernel_rfl) (by kernel_rfl) (by kernel_rfl) hc (by decide) ?_;refine YU (x:=x) (w:=10) (by kernel_rfl) (by kernel_rfl) (by kernel_rfl) (by kernel_rfl) (by kernel_rfl) (by kernel_rfl) (by kernel_rfl) (by kernel_rfl) hc2 (by decide) ?_;refine Xv (by kernel_rfl) ?_;refine Xv (by kernel_rfl) ?_;refine Xv (by kernel_rfl) ?_;refine Xv (by kernel_rfl) ?_;refine Xv (by kernel_rfl) ?_;exact Zo (by kernel_rfl) (by kernel_rfl)
theorem go2r(x:List Nat)(s:Nat)(sn:Sre.Seen)(n:Nat)(hc:((⟨x⟩:Array Nat).getD s 0==13)=true)(hc2:((⟨x⟩:Array Nat).getD (s+1) 0==10)=false):YT (M.runFor (n+20) (S2 x s sn))=some (some (s,s+1)):=by
 have hn:((⟨x⟩:Array Nat).getD s 0==10)=false:=by rw [eq_of_beq hc];rfl
 refine Xv (by kernel_rfl) ?_;refine YU (x:=x) (p:=s) (w:=13) (by kernel_rfl) (by kernel_rfl) (by kernel_rfl) (by kernel_rfl) (by kernel_rfl) (by kernel_rfl) (by kernel_rfl) (by kernel_rfl) hc (by decide) ?_;refine YU (x:=x) (w:=10) (by kernel_rfl) (by kernel_rfl) (by kernel_rfl) (by kernel_rfl) (by kernel_rfl) (by kernel_rfl) (by kernel_rfl) (by kernel_rfl) hc2 (by decide) ?_;refine Xv (by kernel_rfl) ?_;refine YU (x:=x) (p:=s) (w:=10) (by kernel_rfl) (by kernel_rfl) (by kernel_rfl) (by kernel_rfl) (by kernel_rfl) (by kernel_rfl) (by kernel_rfl) (by kernel_rfl) hn (by decide) ?_;refine Xv (by kernel_rfl) ?_;refine YU (x:=x) (p:=s) (w:=13) (by kernel_rfl) (by kernel_rfl) (by kernel_rfl) (by kernel_rfl) (by kernel_rfl) (by kernel_rfl) (by kernel_rfl) (by kernel_rfl) hc (by decide) ?_;refine Xv (by kernel_rfl) ?_;refine YU (x:=x) (w:=10) (by kernel_rfl) (by kernel_rfl) (by kernel_rfl) (by kernel_rfl) (by kernel_rfl) (by kernel_rfl) (by kernel_rfl) (by kernel_rfl) hc2 (by decide) ?_;refine Xv (by kernel_rfl) ?_;refine Xv (by kernel_rfl) ?_;refine Xv (by kernel_rfl) ?_;refine Xv (by kernel_rfl) ?_;refine Xv (by kernel_rfl) ?_;refine Xv (by kernel_rfl) ?_;exact Zo (by kernel_rfl) (by kernel_rfl)
noncomputable def Em(x:List Nat)(s:Nat):Nat:=cond ((⟨x⟩:Array Nat).getD s 0==13&&(⟨x⟩:Array Nat).getD (s+1) 0==10) (s+2) (s+1)
noncomputable def N5(x:List Nat)(k s:Nat):Option (Nat×Nat):=match EQ x k s with
 | none=>none
 | some a=>some (a,Em x a)
theorem go2(x:List Nat)(s:Nat)(sn:Sre.Seen)(h:isE ((⟨x⟩:Array Nat).getD s 0)=true):YT (M.runFor 200 (S2 x s sn))=some (some (s,Em x s)):=by
 unfold isE at h;unfold Em;rcases Bool.or_eq_true_iff.mp h with h | h
 ·have hn:((⟨x⟩:Array Nat).getD s 0==13)=false:=by rw [eq_of_beq h];rfl
  rw [hn];exact go2n x s sn 180 h
 ·rw [h];cases h2:(⟨x⟩:Array Nat).getD (s+1) 0==10 with
  | true=>exact CH x s sn 180 h h2
  | false=>exact go2r x s sn 180 h h2
theorem WI{x:List Nat}:∀{k s a:Nat},EQ x k s=some a->isE ((⟨x⟩:Array Nat).getD a 0)=true
 | 0,s,a,h=>by cases h
 | k+1,s,a,h=>by
  unfold EQ at h;cases hc:isE ((⟨x⟩:Array Nat).getD s 0) with
  | true=>rw [hc] at h;cases h;exact hc
  | false=>rw [hc] at h;exact WI h
noncomputable def Ax(x:List Nat)(s:Nat):M:={S2 x s (({}:Sre.Seen).add 14) with frames:=[],weight:=0}
theorem Cf(x:List Nat)(s:Nat)(hs:s<=x.length):srch code2 x s=some (N5 x (x.length - s) s):=by
 have h0:srch code2 x s=YT (M.runFor 200 (forSearch ⟨code2⟩ ⟨x⟩ 0 s x.length false)):=rfl;rw [h0];obtain ⟨sn,hsn⟩:=BY (Ax x s) x rfl rfl rfl (x.length - s) s ((({}:Sre.Seen).add 14)) (by omega);have e:forSearch ⟨code2⟩ ⟨x⟩ 0 s x.length false=ite ((decide (s>x.length)||decide (x.length - s<1))=true) (({Ax x s with lastStart:=0}:M).say false)
   (match M.admitted (Ax x s) (x.length+1 - s) s (({}:Sre.Seen).add 14) with
   | .ok (some s',seen)=>M.attemptAt {Ax x s with mustAdvance:=false,seen} s' true
   | .ok (none,seen)=>M.say {Ax x s with seen} false
   | .error why=>M.stick (Ax x s) why):=by kernel_rfl
 rw [e];unfold N5
 by_cases h:s=x.length
 ·subst h;rw [if_pos (by simp),Nat.sub_self]
  rfl
 ·rw [if_neg (by simp;omega),show x.length+1 - s=x.length - s+1 by omega,hsn];cases ha:EQ x (x.length - s) s with
  | none=>rfl
  | some a=>exact go2 x a sn (WI ha)
end

section
open PySem.Builtin.Re
noncomputable def Ma(find:Nat->Option (Nat×Nat))(text repl:List Nat):Nat->Nat->List (List Nat)->Option (List (List Nat))
 | 0,_,_=>none
 | f+1,done,acc=>match find done with
  | none=>some (acc++cond (Nat.blt done text.length) [text.drop done] [])
  | some (a,b)=>match Nat.blt a b&&Nat.ble done a&&Nat.ble b text.length with
   | false=>none
   | true=>Ma find text repl f b (acc++(cond (Nat.blt done a) [(text.drop done).take (a - done)] []++[repl]))
theorem ND{code text repl:List Nat}{find:Nat->Option (Nat×Nat)}(hf:∀s,s<=text.length->srch code text s=some (find s)):
  ∀(f done:Nat) (acc:List (List Nat)) {out:List (List Nat)},done<=text.length->Ma find text repl f done acc=some out->QW code text repl f done acc=some out:=by
 intro f
 induction f with
 | zero=>intro done acc out _ h;cases h
 | succ f ih=>
  intro done acc out hd h;unfold QW;rw [hf done hd];unfold Ma at h;cases hq:find done with
  | none=>rw [hq] at h;exact h
  | some ab=>
   obtain ⟨a,b⟩:=ab;rw [hq] at h;dsimp only at h ⊢;cases hc:(Nat.blt a b&&Nat.ble done a&&Nat.ble b text.length) with
   | false=>rw [hc] at h;cases h
   | true=>
    rw [hc] at h;rw [Bool.and_eq_true] at hc;rw [hc.1];exact ih b _ (Nat.le_of_ble_eq_true hc.2) h
noncomputable def rawRow(k n:Nat)(up own:Bool):List Nat:=cond own (List.replicate n 46++[My k up]) (My k up::List.replicate n 46)
noncomputable def Xr(e:Nat):List Nat:=match e with
 | 0=>[10]
 | 1=>[13]
 | _=>[13,10]
def nx(e:Nat):Nat:=match e with
 | 0=>1
 | 1=>2
 | _=>0
noncomputable def yw(p:Nat)(up:Bool)(e:Nat)(n0 n1 n2:Nat):List Nat:=
 rawRow 0 n0 up (p==0)++(Xr e++(rawRow 1 n1 up (p==1)++(Xr (nx e)++(rawRow 2 n2 up (p==2)++Xr (nx (nx e))))))
noncomputable def FJ(e:Nat)(p:Nat)(up:Bool)(a b c:Nat):Bool:=
 Nat.ble (yw p up e a b c).length 60&&match Ma (fun s=>N5 (yw p up e a b c) ((yw p up e a b c).length - s) s) (yw p up e a b c) [13,10] 20 0 [] with
 | none=>false
 | some o2=>Nat.ble 2 o2.length&&(Nat.ble o2.flatten.length 60&&match Ma (fun s=>Qt o2.flatten (o2.flatten.length - s) s) o2.flatten [46,46] 20 0 [] with
  | none=>false
  | some o1=>Nat.ble 2 o1.length&&(Nat.ble o1.flatten.length 60&&o1.flatten==TB p up a b c))
theorem DZ:BX (FJ 0)=true:=by decide+kernel
theorem DY:BX (FJ 1)=true:=by decide+kernel
theorem DX:BX (FJ 2)=true:=by decide+kernel
end

section
open PySem.Builtin.Re
theorem Tq{e p:Nat}{up:Bool}{a b c:Nat}(he:e<3)(hp:p<3)(ha:1<=a)(hb:1<=b)(hc:1<=c)(hs:a+b+c<=7):FJ e p up a b c=true:=by
 match e,he with
 | 0,_=>exact yn DZ hp ha hb hc hs
 | 1,_=>exact yn DY hp ha hb hc hs
 | 2,_=>exact yn DX hp ha hb hc hs
noncomputable def Tm(p:Nat)(up:Bool)(e:Nat)(a b c:Nat):Str:=⟨⟨yw p up e a b c⟩⟩
section
variable{w:World}{A:Around}{R:Result->Shared->Prop}{g:Array GenState}{dr:Drawn}{os:OsState}{h:Heap}{tk:Nat}{tx:Nat}{e p a b c:Nat}{up:Bool}
theorem Tp(rm:Room 20 A)(hpg:Prog (PP w) h)(he:e<3)(hp:p<3)(ha:1<=a)(hb:1<=b)(hc:1<=c)(hs:a+b+c<=7) (Hn:∀h' tk' tz,Prog (PP w) h'->Ext [] h h'->R (.ok (.ret (.str (mailS p up a b c) tz))) ⟨h',g,dr,tk',os⟩): codeAny (model pw w) A (.call (.ref 64) ⟨[.str (Tm p up e a b c) tx],[]⟩) R ⟨h,g,dr,tk,os⟩:=by
 have hq:=Tq (up:=up) he hp ha hb hc hs;unfold FJ at hq;rw [Bool.and_eq_true] at hq;obtain ⟨hl,hq⟩:=hq;have hl':=Nat.le_of_ble_eq_true hl;cases h2:Ma (fun s=>N5 (yw p up e a b c) ((yw p up e a b c).length - s) s) (yw p up e a b c) [13,10] 20 0 [] with
 | none=>rw [h2] at hq;cases hq
 | some o2=>
  rw [h2] at hq;dsimp only at hq;rw [Bool.and_eq_true,Bool.and_eq_true] at hq;obtain ⟨hl2,hf2,hq⟩:=hq;have hf2':=Nat.le_of_ble_eq_true hf2;cases h1:Ma (fun s=>Qt o2.flatten (o2.flatten.length - s) s) o2.flatten [46,46] 20 0 [] with
  | none=>rw [h1] at hq;cases hq
  | some o1=>
   rw [h1] at hq;dsimp only at hq;rw [Bool.and_eq_true,Bool.and_eq_true] at hq;obtain ⟨hl1,hf1,hq⟩:=hq;have hf1':=Nat.le_of_ble_eq_true hf1;have heq:o1.flatten=TB p up a b c:=eq_of_beq hq;refine To rm hpg (o2:=o2) (o1:=o1) (by omega) (Nat.le_of_ble_eq_true hl2) (by omega) (ND (fun s hs=>Cf _ s hs) 20 0 [] (Nat.zero_le _) h2)
    (Nat.le_of_ble_eq_true hl1) (by omega) (ND (fun s hs=>Cg _ s hf2' hs) 20 0 [] (Nat.zero_le _) h1) ?_
   intro h' tk' tz hp' X;rw [heq];exact Hn h' tk' tz hp' X
end
end

theorem ZW{L l:List (Addr×Obj)}{jx:List Nat}(e:l=jx.filterMap (L[·]?)):∀p∈l,p∈L:=by
 subst e;intro p hp;obtain ⟨i,_,hi⟩:=List.mem_filterMap.mp hp;exact List.mem_of_getElem? hi
theorem Md{h:Heap}{L l rest:List (Addr×Obj)}{jx kx:List Nat}(H:Has h L)(h1:l=jx.filterMap (L[·]?))(h2:rest=kx.filterMap (L[·]?))(hjk:(jx++kx).Nodup):∀p∈l,∀q∈rest,p.1≠q.1:=by
 have H2:Has h ((jx++kx).filterMap (L[·]?)):=H.pick (jx++kx) rfl hjk;rw [List.filterMap_append,←h1,←h2] at H2;exact fun p hp q hq=>H2.apart2 hp hq
theorem Xf{l lm lr cs:List (Addr×Obj)}(rx:List Nat)(h1:l=lm++lr)(h2:lr=rx.filterMap (cs[·]?)):∀p∈l,p.1∈lm.map (·.1)\/p∈cs:=by
 subst h1;intro p hp;rcases List.mem_append.mp hp with h | h
 ·exact .inl (List.mem_map_of_mem h)
 ·exact .inr (ZW h2 p h)
theorem iL{p:Addr×Obj}{as:List Addr}{cs:List (Addr×Obj)}(k:Nat)(e:as[k]? =some p.1):p.1∈as\/p∈cs:=.inl (List.mem_of_getElem? e)
theorem iR{p:Addr×Obj}{as:List Addr}{cs:List (Addr×Obj)}(k:Nat)(e:cs[k]? =some p):p.1∈as\/p∈cs:=.inr (List.mem_of_getElem? e)
theorem XS{l cs:List (Addr×Obj)}:∀p∈l,p.1∈l.map (·.1)\/p∈cs:=fun _ hp=>.inl (List.mem_map_of_mem hp)
theorem Rep.step2{B:Base}{h h':Heap}{L E l l1 ro cs rest led:List (Addr×Obj)}{m:Nat}{ix jx kx:List Nat}{as:List Addr}(D:Rep B h (l.map (·.1)) h' led m)(pick:ix.filterMap (led[·]?)=cs++ro)(hix:ix.Nodup) (hl:l=l1++ro)(H:Has h (L++E))(h1:l1=jx.filterMap (L[·]?))(hrest:rest=kx.filterMap (L[·]?))(hjk:(jx++kx).Nodup)(hro:∀p∈ro,p∈E)(has:∀p∈l1,p.1∈as\/p∈cs): Has h' (cs++(rest++E))/\Ext as h h':=by
 have N:=D.has.pick ix pick.symm hix;have X:=D.ext;have hmem:∀{b:Addr},b∈l.map (·.1)->(∃p∈l1,p.1=b)\/(∃p∈ro,p.1=b):=fun {b} hb=>by
  obtain ⟨p,hp,e⟩:=List.mem_map.mp hb;rw [hl] at hp;rcases List.mem_append.mp hp with h | h
  ·exact .inl ⟨p,h,e⟩
  ·exact .inr ⟨p,h,e⟩
 have hL1:∀p∈l1,p∈L:=ZW h1;have hR:∀p∈rest,p∈L:=ZW hrest;have hap:=Md H.left h1 hrest hjk;have X':Ext as h h':=⟨X.size,fun b o e hb=>by
  by_cases hm:b∈l.map (·.1)
  ·rcases hmem hm with ⟨p,hp,rfl⟩ | ⟨p,hp,rfl⟩
   ·have e2:=H.own p (List.mem_append_left _ (hL1 p hp));rw [e2] at e;cases e;rcases has p hp with h3 | h3
    ·exact absurd h3 hb
    ·exact N.own p (List.mem_append_left _ h3)
   ·have e2:=H.own p (List.mem_append_right _ (hro p hp));rw [e2] at e;cases e;exact N.own p (List.mem_append_right _ hp)
  ·exact X.keep b o e hm⟩
 refine ⟨?_,X'⟩;have HR0:Has h (rest++E):=by
  have H3:Has h rest:=H.left.pick kx hrest (List.nodup_append.mp hjk).2.1;exact H3.join H.right fun p hp q hq=>H.apart2 (hR p hp) hq
 have keepR:∀q∈rest++E,h'.get? q.1=some q.2:=fun q hq=>by
  by_cases hm:q.1∈l.map (·.1)
  ·rcases hmem hm with ⟨p,hp,e⟩ | ⟨p,hp,e⟩
   ·exfalso;rcases List.mem_append.mp hq with h3 | h3
    ·exact hap p hp q h3 e
    ·exact H.apart2 (hL1 p hp) h3 e
   ·have e2:=H.own p (List.mem_append_right _ (hro p hp));have e3:=HR0.own q hq;rw [←e,e2] at e3;injection e3 with e3
    rw [←e,←e3];exact N.own p (List.mem_append_right _ hp)
  ·exact X.keep q.1 q.2 (HR0.own q hq) hm
 have HR1:Has h' (rest++E):=⟨keepR,HR0.nodup,HR0.apart⟩;refine N.left.join HR1 fun p hp q hq e=>?_;have hpl:p∈led:=by
  have:p∈cs++ro:=List.mem_append_left _ hp;rw [←pick] at this;obtain ⟨i,_,hi⟩:=List.mem_filterMap.mp this;exact List.mem_of_getElem? hi
 rcases D.loc p hpl with h3 | h3
 ·rcases hmem h3 with ⟨r,hr,er⟩ | ⟨r,hr,er⟩
  ·rcases List.mem_append.mp hq with h4 | h4
   ·exact hap r hr q h4 (er.trans e)
   ·exact H.apart2 (hL1 r hr) h4 (er.trans e)
  ·exact N.apart2 hp hr er.symm
 ·have:=HR0.lt hq;rw [←e,D.old] at this;exact absurd this (Nat.not_lt.mpr h3)
section
variable{w:World}{A:Around}{k:Nat}{Q:Fin->Shared->Prop}{Er:Value->Shared->Prop}{h:Heap}{g:Array GenState}{dr:Drawn}{os:OsState}{cm:Bool}{tk:Nat}
 {f:Nat}{O:List Nat}{R:List Pr}{c:Code}{t:Sem Fin}{K:List Fm}{d:Nat}{o:Out}{cd:Code}{m i:Nat}{obs:List Ob}{ix:List Nat}{L L0 L1 E l cs rest:List (Addr×Obj)}
theorem yj{E:List (Addr×Obj)}:∀p∈([]:List (Addr×Obj)),p∈E:=fun _ hp=>(nomatch hp)
theorem Xm(jx kx:List Nat)(as:List Addr){fl:Flow}(sg:Seg o (.flow fl) cd m i obs ix cs)(ho:o=ev ⟨pw,PP w,h.objs.size,tk,cm⟩ f O R c t K d l 0 0 [] [])(hobs:∀b∈obs,b.Holds (PP w) (model pw w))
  (rm:Room k A)(hp:Prog (PP w) h)(H:Has h (L++E))(h1:l=jx.filterMap (L[·]?))(hrest:rest=kx.filterMap (L[·]?))(has:∀p∈l,p.1∈as\/p∈cs)(hdep:(ar cm A K c).depth<=A.depth+d)(hK:KOk cm A K) (Hn:∀h',Prog (PP w) h'->Has h' (cs++(rest++E))->Ext as h h'->Q (.done fl) ⟨h',g,dr,tk+i,os⟩)(hjk:(jx++kx).Nodup:=by decide)(hix:ix.Nodup:=by decide):
  Goes cm (model pw w) A Q Er K c t ⟨h,g,dr,tk,os⟩:=by
 refine FF rm hp (H.left.pick jx h1 (List.nodup_append.mp hjk).1) hdep hK ho sg hobs ?_;intro h' D';obtain ⟨S1,S2⟩:=D'.step2 (ro:=[]) (by rw [sg.pick,List.append_nil]) hix (by rw [List.append_nil]) H h1 hrest hjk yj has;exact Hn h' D'.toProg S1 S2
theorem Xy(jx kx:List Nat)(as:List Addr)(sg:Seg o .again cd m i obs ix cs)(ho:o=ev ⟨pw,PP w,h.objs.size,tk,true⟩ f O R c t K d l 0 0 [] [])(hobs:∀b∈obs,b.Holds (PP w) (model pw w))(hq:cd.quiet=true)
  (rm:Room k A)(hp:Prog (PP w) h)(H:Has h (L++E))(h1:l=jx.filterMap (L[·]?))(hrest:rest=kx.filterMap (L[·]?))(has:∀p∈l,p.1∈as\/p∈cs)(hdep:(ar true A K c).depth<=A.depth+d)(hK:KOk true A K) (Hn:∀h',Prog (PP w) h'->Has h' (cs++(rest++E))->Ext as h h'->codeAny (model pw w) A cd (asR Q Er) ⟨h',g,dr,tk+i,os⟩)(hjk:(jx++kx).Nodup:=by decide)(hix:ix.Nodup:=by decide):
  Goes true (model pw w) A Q Er K c t ⟨h,g,dr,tk,os⟩:=by
 refine Zp rm hp (H.left.pick jx h1 (List.nodup_append.mp hjk).1) hdep hK ho sg hobs hq ?_;intro h' D';obtain ⟨S1,S2⟩:=D'.step2 (ro:=[]) (by rw [sg.pick,List.append_nil]) hix (by rw [List.append_nil]) H h1 hrest hjk yj has;exact Hn h' D'.toProg S1 S2
structure Stop (cm:Bool) (k:Nat) (A:Around) (o:Out):Prop where
 kk:KOk cm A o.res.K
 dd:(ar cm A o.res.K o.res.c).depth<=A.depth+o.res.d
 rm:Room k ((ar cm A o.res.K o.res.c).mark none)
theorem QY(jx kx:List Nat)(as:List Addr)(dep:DG o.res.hk)(sg:Seg o .hold cd m i obs ix cs)(ho:o=ev ⟨pw,PP w,h.objs.size,tk,cm⟩ f O R c t K d l 0 0 [] [])(hobs:∀b∈obs,b.Holds (PP w) (model pw w))
  (rm:Room k A)(hp:Prog (PP w) h)(H:Has h (L++E))(h1:l=jx.filterMap (L[·]?))(hrest:rest=kx.filterMap (L[·]?))(has:∀p∈l,p.1∈as\/p∈cs)(hdep:(ar cm A K c).depth<=A.depth+d)(hK:KOk cm A K) (Hn:∀h',Prog (PP w) h'->Has h' (cs++(rest++E))->Ext as h h'->h'.objs.size=h.objs.size+m->KOk cm A o.res.K->(ar cm A o.res.K o.res.c).depth<=A.depth+o.res.d->
   Goes cm (model pw w) A Q Er o.res.K o.res.c (o.res.hk []) ⟨h',g,dr,tk+i,os⟩)(hjk:(jx++kx).Nodup:=by decide)(hix:ix.Nodup:=by decide):
  Goes cm (model pw w) A Q Er K c t ⟨h,g,dr,tk,os⟩:=by
 refine Tk rm dep hp (H.left.pick jx h1 (List.nodup_append.mp hjk).1) hdep hK ho sg hobs ?_;intro h' D' k1 k2;obtain ⟨S1,S2⟩:=D'.step2 (ro:=[]) (by rw [sg.pick,List.append_nil]) hix (by rw [List.append_nil]) H h1 hrest hjk yj has;exact Hn h' D'.toProg S1 S2 D'.size k1 k2
theorem Xh{kk:Nat}(jx kx:List Nat)(as:List Addr)(sg:Seg o .stop cd m i obs ix cs)(ho:o=ev ⟨pw,PP w,h.objs.size,tk,cm⟩ f O R c t K d l 0 0 [] [])(hobs:∀b∈obs,b.Holds (PP w) (model pw w))
  (rm:Room kk A)(hp:Prog (PP w) h)(H:Has h (L++E))(h1:l=jx.filterMap (L[·]?))(hrest:rest=kx.filterMap (L[·]?))(has:∀p∈l,p.1∈as\/p∈cs)(hdep:(ar cm A K c).depth<=A.depth+d)(hK:KOk cm A K) (Hn:∀h',Prog (PP w) h'->Has h' (cs++(rest++E))->Ext as h h'->h'.objs.size=h.objs.size+m->Stop cm k A o-> codeAny (model pw w) ((ar cm A o.res.K o.res.c).mark none) cd (fun r s'=>Goes cm (model pw w) A Q Er o.res.K o.res.c (o.res.k r) s') ⟨h',g,dr,tk+i,os⟩)(hjk:(jx++kx).Nodup:=by decide)(hix:ix.Nodup:=by decide)(hkk:k+20<=kk:=by decide):
  Goes cm (model pw w) A Q Er K c t ⟨h,g,dr,tk,os⟩:=by
 refine yt (k:=k) ⟨rm.h,Nat.le_trans (Nat.add_le_add_left hkk _) rm.d,by have:=rm.u;lia⟩ hp (H.left.pick jx h1 (List.nodup_append.mp hjk).1) hdep hK ho sg hobs ?_;intro h' D' k1 k2 k3;obtain ⟨S1,S2⟩:=D'.step2 (ro:=[]) (by rw [sg.pick,List.append_nil]) hix (by rw [List.append_nil]) H h1 hrest hjk yj has;exact Hn h' D'.toProg S1 S2 D'.size ⟨k1,k2,k3⟩
theorem XF(jx kx:List Nat)(as:List Addr){fl:Flow}(sg:Seg o (.flow fl) cd m i obs ix cs)(ho:o=ev ⟨pw,PP w,h.objs.size,tk,cm⟩ f O R c t K d l 0 0 [] [])(hobs:∀b∈obs,b.Holds (PP w) (model pw w))
  (rm:Room k A)(hp:Prog (PP w) h)(H:Has h (L0++(L1++E)))(h1:l=jx.filterMap ((L0++L1)[·]?))(hrest:rest=kx.filterMap ((L0++L1)[·]?))(has:∀p∈l,p.1∈as\/p∈cs)(hdep:(ar cm A K c).depth<=A.depth+d)(hK:KOk cm A K) (Hn:∀h',Prog (PP w) h'->Has h' (cs++(rest++E))->Ext as h h'->Q (.done fl) ⟨h',g,dr,tk+i,os⟩)(hjk:(jx++kx).Nodup:=by decide)(hix:ix.Nodup:=by decide):
  Goes cm (model pw w) A Q Er K c t ⟨h,g,dr,tk,os⟩:=
 Xm jx kx as sg ho hobs rm hp (by rw [List.append_assoc];exact H) h1 hrest has hdep hK Hn hjk hix
theorem Yn{kk:Nat}(jx kx:List Nat)(as:List Addr)(sg:Seg o .stop cd m i obs ix cs)(ho:o=ev ⟨pw,PP w,h.objs.size,tk,cm⟩ f O R c t K d l 0 0 [] [])(hobs:∀b∈obs,b.Holds (PP w) (model pw w))
  (rm:Room kk A)(hp:Prog (PP w) h)(H:Has h (L0++(L1++E)))(h1:l=jx.filterMap ((L0++L1)[·]?))(hrest:rest=kx.filterMap ((L0++L1)[·]?))(has:∀p∈l,p.1∈as\/p∈cs)(hdep:(ar cm A K c).depth<=A.depth+d)(hK:KOk cm A K) (Hn:∀h',Prog (PP w) h'->Has h' (cs++(rest++E))->Ext as h h'->h'.objs.size=h.objs.size+m->Stop cm k A o-> codeAny (model pw w) ((ar cm A o.res.K o.res.c).mark none) cd (fun r s'=>Goes cm (model pw w) A Q Er o.res.K o.res.c (o.res.k r) s') ⟨h',g,dr,tk+i,os⟩)(hjk:(jx++kx).Nodup:=by decide)(hix:ix.Nodup:=by decide)(hkk:k+20<=kk:=by decide):
  Goes cm (model pw w) A Q Er K c t ⟨h,g,dr,tk,os⟩:=
 Xh jx kx as sg ho hobs rm hp (by rw [List.append_assoc];exact H) h1 hrest has hdep hK Hn hjk hix hkk
end
theorem Room.le{k j:Nat}{A:Around}(r:Room k A)(h:j<=k):Room j A:=⟨r.h,Nat.le_trans (Nat.add_le_add_left h _) r.d,by have:=r.u;lia⟩
theorem Xg{A:Around}{c:Code}(h:weightF c=0):(ar true A [] c).depth<=A.depth+0:=by
 show A.depth+c.weight<=_;rw [YA,h];exact Nat.le_refl _
theorem Ext.to{as as':List Addr}{h h':Heap}(X:Ext as h h')(ha:∀a∈as,a∈as'):Ext as' h h':=⟨X.size,fun b o e hb=>X.keep b o e fun hm=>hb (ha b hm)⟩
theorem Ext.new{as as':List Addr}{h h' h'':Heap}(x:Ext as h h')(y:Ext as' h' h'')(ha:∀a∈as',h.objs.size<=a):Ext as h h'':=x.trans y fun a hm=>.inr (ha a hm)

section
variable{prog:Program}{w:World}{A:Around}{R:Result->Shared->Prop}{s:Shared}
theorem Vx{id:String}{b:Builtin}{args:List Value}(hk:builtinKind id=none)(hp:plainId id=true)(hb:entryFor table id=some b)(ha:argsOk id ⟨args,[]⟩) (hc:wpAny (model prog w) A.in1 (b ⟨args,[]⟩) (fun fin s'=>∃v,fin=.done (.ret v)/\R (.ok (.ret v)) s') (fun e s'=>R (.error e) s') s):codeAny (model prog w) A (.call (.builtin id) ⟨args,[]⟩) R s:=by
 refine codeAny_call_builtin hp hb ?_;have hfin:=wpAny_mono hc (Q':=fun fin s'=>match fin with
   | .done f=>R (.ok f) s'
   | .again c'=>c'.quiet=true/\codeAny (model prog w) A c' R s')
  (fun fin s' h'=>by obtain ⟨v,rfl,hv⟩:=h';exact hv) fun _ _ h'=>h'
 simp only [checkBuiltinCall,hk];cases hsig:Manifest.signature? id with
 | none=>exact wpAny_pure hfin
 | some sig=>
  simp only [argsOk,hsig] at ha;have h2:Bind.checkArgs id sig ⟨args,[]⟩=pure ():=ha;show wpAny _ A.in1 (Bind.checkArgs id sig ⟨args,[]⟩) _ _ s;rw [h2];exact wpAny_pure hfin
theorem UN{T id:String}{B:Builtin}{v:Value}{n:Int}(hT:s.TypeIs v T)(slot:Slot T "__len__" id)(entry:entryFor table id=some B)(args:argsOk id ⟨[v],[]⟩)(g:Gives (B ⟨[v],[]⟩) (.int n))(h0: ¬n<0)(hfit: ¬n>=2 ^ 63) (h:R (.ok (.ret (.int n (s.toks+1)))) {s with toks:=s.toks+1+1}):codeAny (model prog w) A (.call (.builtin "len") ⟨[v],[]⟩) R s:=by
 refine Vx kind_len plain_len entry_len (args_len1 _) ?_;unfold Builtin.«len»;refine wpAny_bind (m:=oneArg "len" _) (wpAny_pure ?_);refine wpAny_bind (m:=callSpecial? v (Str.ofString "__len__")) (wpAny_callSpecial?_slot (name:=Str.ofString "__len__") hT slot (call_gives slot hT entry args g ?_));show wpAny _ _ _ _ _ {s with toks:=s.toks+1};refine wpAny_bind (wpAny_holding (wpAny_pure ?_));refine wpAny_bind (wpAny_letGo ?_);show wpAny _ _ (if n<0 then _ else _) _ _ _;rw [if_neg h0];show wpAny _ _ (if n>=2 ^ 63 then _ else _) _ _ _;rw [if_neg hfit];exact wpAny_bind (wpAny_mkInt (wpAny_pure ⟨_,rfl,h⟩))
end
section
variable{P:Params}{prog:Program}{w:World}{t n tx ty:Nat}
theorem Z6{x:Str}{k:Nat}(hk:x.length=k)(hs:k<1000):Ob.Holds P (model prog w) (oB "len" [.str x tx] t n (.int (k:Int) (t+1)) (di:=2)):=by
 intro A R s _ _ _ ht _ _ hR;obtain rfl:s.toks=t:=ht;subst hk;exact UN (typeIs_str s x tx) F.slot_str_len F.entry_str_len (F.args_str_len_1 _) (gives_str_len x tx) (by omega) (by omega) hR
theorem lt8F:∀m:_root_.Fin 8,2<=m.val->m.val=2\/m.val=3\/m.val=4\/m.val=5\/m.val=6\/m.val=7:=by decide
theorem lt8{m:Nat}(h2:2<=m)(h8:m<8):m=2\/m=3\/m=4\/m=5\/m=6\/m=7:=lt8F ⟨m,h8⟩ h2
theorem Qe{m:Nat}(h2:2<=m)(h8:m<8):Ob.Holds P (model prog w) (oB "str.__mul__" [.str ⟨⟨[46]⟩⟩ tx,.int (m:Int) ty] t n (.str (dotS m) t) (di:=1)):=by
 intro A R s _ _ _ ht _ _ hR;obtain rfl:s.toks=t:=ht;have hb:Builtin.Str.tooLong ((⟨⟨[46]⟩⟩:Str).length*(m:Int).toNat)=false:=by
  simp only [Builtin.Str.tooLong,decide_eq_false_iff_not];have:sizeLine=16777216:=rfl;have h1:(⟨⟨[46]⟩⟩:Str).length=1:=rfl;rw [h1];omega
 refine Yb F.slot_str_mul (typeIs_str s _ tx) F.entry_str_mul (F.args_str_mul_2 _ _) (gives_str_mul ⟨⟨[46]⟩⟩ (m:Int) tx ty ?_ ?_ (fun _ _=>hb)) ?_
 ·rw [Bool.or_eq_false_iff];constructor<;>(rw [decide_eq_false_iff_not];omega)
 ·intro _ _;clear hR hb;have h1:((⟨⟨[46]⟩⟩:Str).length:Int)=1:=rfl;rw [h1];have:=lt8 h2 h8;rcases this with rfl | rfl | rfl | rfl | rfl | rfl<;>decide
 ·rw [if_neg (by omega),if_neg (by simp;constructor;omega;decide)];have e:(⟨(List.replicate (m:Int).toNat (⟨⟨[46]⟩⟩:Str).cps).foldl (· ++ ·) #[]⟩:Str)=dotS m:=by
   clear hR hb;have:=lt8 h2 h8;rcases this with rfl | rfl | rfl | rfl | rfl | rfl<;>rfl
  rw [e];refine ⟨?_,hR⟩;show (List.replicate m 46).length<=_;rw [List.length_replicate];have:sizeLine=16777216:=rfl;omega
end

noncomputable abbrev rgO(a b:Int):Obj:={cls:=FC,data:=.fields ⟨[.int a 0,.int b 0,.int 1 0]⟩}

theorem HD(X Y:List Nat):(⟨⟨X⟩⟩:Str)++(⟨⟨Y⟩⟩:Str)=⟨⟨X++Y⟩⟩:=by
 show Str.mk ((⟨X⟩:Array Nat)++(⟨Y⟩:Array Nat))=_;rw [List.append_toArray]
section
variable{P:Params}{prog:Program}{w:World}{a b:Int}{ta tb t n tx:Nat}
theorem XX(hb:b≠0):Ob.Holds P (model prog w) (oB "int.__mod__" [.int a ta,.int b tb] t n (.int (a.fmod b) t) (di:=1)):=by
 intro A R s _ _ _ ht _ _ hR;obtain rfl:s.toks=t:=ht;refine Yb F.slot_int_mod (typeIs_int s a ta) F.entry_int_mod (F.args_int_mod_2 _ _) (AutoIntG6.int___mod___int_int_1 a ta b tb (by simpa using hb)) ?_;exact hR
theorem ZU(hb:b≠0)(hs:b.natAbs<1073741824):Ob.Holds P (model prog w) (oB "int.__floordiv__" [.int a ta,.int b tb] t n (.int (a.fdiv b) t) (di:=1)):=by
 intro A R s _ _ _ ht _ _ hR;obtain rfl:s.toks=t:=ht;refine Yb F.slot_int_floordiv (typeIs_int s a ta) F.entry_int_floordiv (F.args_int_floordiv_2 _ _) (AutoIntG4.int___floordiv___int_int_1 a ta b tb (by simpa using hb) (by rw [PyProof.noPylong_small hs];exact Bool.false_ne_true)) ?_;exact hR
theorem XH:Ob.Holds P (model prog w) (oB "int.__add__" [.int a ta,.int b tb] t n (.int (a+b) t) (di:=1)):=by
 intro A R s _ _ _ ht _ _ hR;obtain rfl:s.toks=t:=ht;refine Yb F.slot_int_add (typeIs_int s a ta) F.entry_int_add (F.args_int_add_2 _ _) (gives_int_add a b ta tb) ?_;exact hR
theorem XK:Ob.Holds P (model prog w) (oB "int.__sub__" [.int a ta,.int b tb] t n (.int (a - b) t) (di:=1)):=by
 intro A R s _ _ _ ht _ _ hR;obtain rfl:s.toks=t:=ht;refine Yb F.slot_int_sub (typeIs_int s a ta) F.entry_int_sub (F.args_int_sub_2 _ _) (gives_int_sub a b ta tb) ?_;exact hR
theorem o_sget{x:Str}{c:Nat}(h:((decide (a< -(2 ^ 63:Int))||decide (a>=2 ^ 63)),(seqIndex? a x.length).bind (x.cps[·]?))=(false,some c)):
  Ob.Holds P (model prog w) (oB "str.__getitem__" [.str x tx,.int a ta] t n (.str ⟨⟨[c]⟩⟩ t) (di:=1)):=by
 intro A R s _ _ _ ht _ _ hR;obtain rfl:s.toks=t:=ht;simp only [Prod.mk.injEq] at h;refine Yb F.slot_str_getitem (typeIs_str s x tx) F.entry_str_getitem (F.args_str_getitem_2 _ _) (gives_str_getitem x a tx ta c h.1 h.2) ?_;refine ⟨?_,hR⟩;show 1<=sizeLine;decide
theorem XO{X Y:List Nat}{ty:Nat}(hX:X≠[])(hY:Y≠[])(hl:X.length+Y.length<=1000):Ob.Holds P (model prog w) (oB "str.__add__" [.str ⟨⟨X⟩⟩ tx,.str ⟨⟨Y⟩⟩ ty] t n (.str ⟨⟨X++Y⟩⟩ t) (di:=1)):=by
 refine Cm ?_ ?_ (HD X Y) ?_
 ·show (X.length==0)=false;exact beq_eq_false_iff_ne.mpr fun h=>hX (List.length_eq_zero_iff.mp h)
 ·show (Y.length==0)=false;exact beq_eq_false_iff_ne.mpr fun h=>hY (List.length_eq_zero_iff.mp h)
 ·show (X++Y).length<=_;rw [List.length_append];have:sizeLine=16777216:=rfl;lia
end

noncomputable abbrev cellO(v:Value):Obj:={cls:=Sw,data:=.cell (some v)}
noncomputable abbrev dctO(es:List DictEntry)(e:Nat):Obj:={cls:=Sv,data:=.dict ⟨es⟩ e}
noncomputable abbrev qE(fd:FuncData):Obj:={cls:=.type PySem.W.SL.s7174869446012820540x8,data:=.func fd}
noncomputable abbrev Ze(kc:Addr):Obj:={cls:=.none,data:=.fields ⟨[.int 144 0,.int 39 0,.ref kc]⟩}
noncomputable abbrev i239:Obj:={cls:=.none,data:=.fields ⟨[]⟩}
noncomputable abbrev YH(K x0:Value)(q:Str)(uq:Nat)(rest:List Value):Obj:={cls:=K,data:=.fields ⟨x0::.str q uq::rest⟩}
noncomputable abbrev XA:Obj:={cls:=Sw,data:=.cell none}

theorem Me{P:Params}{prog:Program}{w:World}{t n:Nat}{a:Value}:
  Ob.Holds P (model prog w) (oB "list.__new__" [Tf,a] t n (.ref n) (al:=[listO [] 0])):=by
 intro A R s _ _ _ ht hn _ hR;obtain rfl:s.toks=t:=ht;obtain rfl:s.heap.objs.size=n:=hn;have h:=code_list_new (prog:=prog) (w:=w) (A:=A) (s:=s) (E:=fun e s'=>R (.error e) s') a (Q₁:=fun v s'=>R (.ok (.ret v)) s') (by
  have e:({cls:=.type "list",data:=.seq #[]}:Obj)=listO [] 0:=by unfold listO;rw [Ye]
  rw [e];exact hR)
 rw [←Ye] at h;refine codeAny_mono h fun r s' hr=>?_;cases r with
 | ok f=>cases f with
  | ret v=>exact hr
  | _=>exact hr.elim
 | error e=>exact hr
theorem FQ{P:Params}{prog:Program}{w:World}{t n:Nat}{l a:Addr}{vs:List Value}{e:Nat}(hne:a≠l)(h0:vs≠[])(hz:vs.length<=1000):
  Ob.Holds P (model prog w) (oB "list.__init__" [.ref l,.ref a] t n .none (rd:=[(a,listO vs e)]) (w:=some (l,listO [] 0,listO vs 1))):=by
 intro A R s _ _ _ ht _ hr ho hR;have hoa:=hr (a,listO vs e) (.head _);have hl:=XM ho;have e0:(listO [] 0:Obj)={cls:=.type "list",data:=.seq #[]}:=by unfold listO;rw [Ye]
 have hS:s.heap.get? l=some {cls:=.type "list",data:=.seq #[]}:=by rw [←e0];exact ho
 have hs:sizeLine=16777216:=rfl;refine codeAny_call_builtin F.slot_list_init.plain F.entry_list_init (F.slot_list_init.check _ _ _ _ _ _ _ _ hl.typeIs (F.args_list_init_2 _ _) ?_);refine wpAny_list_init_seq (T:="list") (hsz:=by show vs.length<=_;lia) l a (.inl rfl) hne hS hoa Ye rfl ?_;have T1:=Turned.update (h:=s.heap) (f:=Obj.mapSeq (fun _=>(#[]:Array Value))) hS rfl;have T2:=Turned.update (h:=s.heap.update l (Obj.mapSeq (fun _=>(#[]:Array Value)))) (f:=Obj.mapSeq (· ++(⟨vs⟩:Array Value))) T1.2.1 rfl;have e1:Obj.mapSeq (· ++(⟨vs⟩:Array Value)) (Obj.mapSeq (fun _=>(#[]:Array Value)) {cls:=.type "list",data:=.seq #[]})=listO vs 1:=by
  unfold listO;rw [Ye];unfold Obj.mapSeq;cases vs with
  | nil=>exact absurd rfl h0
  | cons v r=>simp
 rw [e1] at T2;have:=hR _ (T1.trans T2);rw [←ht] at this;exact this

theorem qC:FC=.type "range_iterator":=congrArg Value.type PySem.W.SL.e15992201931430999065x14.symm
section
variable{P:Params}{prog:Program}{w:World}{t n:Nat}
theorem YM{it:Addr}{a b b':Int}(h0:0<b)(e:b'=b - 1):
  Ob.Holds P (model prog w) (oB "range_iterator.__next__" [.ref it] t n (.int a t) (di:=1) (w:=some (it,rgO a b,rgO (a+1) b'))):=by
 intro A R s _ _ _ ht _ _ ho hR;subst e;obtain rfl:s.toks=t:=ht;have hT:s.TypeIs (.ref it) "range_iterator":=⟨_,ho,qC⟩;refine Yt F.slot_range_iterator_next hT F.entry_range_iterator_next (F.args_range_iterator_next_1 _) ?_;show wpAny _ _ (field (.ref it) 0 >>= _) _ _ s;refine wpAny_bind (wpAny_field ho rfl (x:=.int a 0) rfl ?_);show wpAny _ _ (field (.ref it) 1 >>= _) _ _ s;refine wpAny_bind (wpAny_field ho rfl (x:=.int b 0) rfl ?_);show wpAny _ _ (field (.ref it) 2 >>= _) _ _ s;refine wpAny_bind (wpAny_field ho rfl (x:=.int 1 0) rfl ?_);show wpAny _ _ (if b<=0 then _ else _) _ _ s;rw [if_neg (by lia)];have T1:=Turned.update (h:=s.heap) (f:=Obj.mapFields (·.setIfInBounds 0 (rawInt (a+1)))) ho rfl;have T2:=Turned.update (h:=s.heap.update it (Obj.mapFields (·.setIfInBounds 0 (rawInt (a+1))))) (f:=Obj.mapFields (·.setIfInBounds 1 (rawInt (b - 1)))) T1.2.1 rfl;refine wpAny_bind (wpAny_setField ho rfl (by simp) ?_);refine wpAny_bind (wpAny_setField T1.2.1 rfl (by simp) ?_);have:=hR _ (T1.trans T2);exact wpAny_bind (wpAny_mkInt (wpAny_pure ⟨_,rfl,this⟩))
end

section
variable(b1 b2:Bool)(P:Params)
def Al:List Nat:=dO 30 0x1810204080020008102000800204000000000000000810204000
section
variable(n0 t0 n t:Nat)(dl:Addr)(tt:Int)(ttk:Nat)
def Lu:Out:=
 let xc:Code:=.call (.ref 232) ⟨[.ref dl,.int tt ttk],[]⟩;ev (bS b1 b2 P n t) 60 Al [] xc (XQ xc) [] 0 [] 0 0 [] []
theorem VD:qW (Lu b1 b2 P n t dl tt ttk) 5 5 [] [0,1,2,4] ([(n+4,dctO [] 0),(n+3,listO [] 0),(n+2,rgO 0 3),(n+0,frameO [kn1 P (t+0) (.ref dl),Zq P (t+1) (.int tt ttk)] 2)]):=lO
def Ak:Bool->List Nat
 | true=>oC [dO 19 0x800000081060c183060c1800600180,Aw,Av,Au,dO 32 0x40000078f2040810204080020008001f3e7c01f00000902068810,Aw,Av,Au,dO 32 0x400000eddbd7af5ebd7af403d00f403c78f003c00000902068810,Aw,Av,Au,dO 22 0xdab56805a0168059b36405900000902068810]
 | false=>oC [dO 31 0xc003000c18002000000204183060c183060018006001800600183,Aw,Av,Au,dO 38 0x180060018300040000078f2040810204080020008001f3e7c01f00000902068810,Aw,Av,Au,dO 38 0x1800600183000400000eddbd7af5ebd7af403d00f403c78f003c00000902068810,Aw,Av,Au,dO 22 0xdab56805a0168059b36405900000902068810]
def cloB:Out:=let xc:=(Lu b1 b2 P n0 t0 dl tt ttk).res.callee;ev (bS b1 b2 P n t) 3320 (Ak b2) [{v:=Value.none},{v:=Value.none},{v:=Value.none},{v:=Value.none},{v:=Value.none},{v:=Value.none},{v:=Value.none},{v:=Value.none},{v:=Value.none},{v:=Value.none},{v:=Value.none},{v:=Value.none},{v:=Value.none},{v:=Value.none},{v:=Value.none},{v:=Value.none},{v:=Value.none},{v:=Value.none}] xc (denF xc) [] 0 [(n0+4,dctO [] 0),(n0+3,listO [] 0),(n0+2,rgO 0 3)] 0 0 [] []
abbrev yR:Prop:=SegE (cloB b1 b2 P n0 t0 n t dl tt ttk) (.flow .next) (.call .none {}) 89 141 [oB "re.Pattern.search" [VR 74,VS {cps:={toList:=[46]}} (t+105)] (t+141) (n+85) Value.none,oB "re.Pattern.search" [VR 69,VS {cps:={toList:=[99]}} (t+103)] (t+137) (n+84) Value.none,oB "re.Pattern.search" [VR 74,VS {cps:={toList:=[46]}} (t+102)] (t+131) (n+80) Value.none,oB "re.Pattern.search" [VR 69,VS {cps:={toList:=[98]}} (t+100)] (t+127) (n+79) Value.none,oB "re.Pattern.search" [VR 74,VS {cps:={toList:=[46]}} (t+99)] (t+121) (n+75) Value.none,oB "re.Pattern.search" [VR 69,VS {cps:={toList:=[97]}} (t+97)] (t+117) (n+74) Value.none,oB "re.Pattern.search" [VR 74,VS {cps:={toList:=[46]}} (t+58)] (t+94) (n+56) Value.none,oB "re.Pattern.search" [VR 69,VS {cps:={toList:=[99]}} (t+56)] (t+90) (n+55) Value.none,oB "re.Pattern.search" [VR 74,VS {cps:={toList:=[46]}} (t+55)] (t+84) (n+51) Value.none,oB "re.Pattern.search" [VR 69,VS {cps:={toList:=[98]}} (t+53)] (t+80) (n+50) Value.none,oB "re.Pattern.search" [VR 74,VS {cps:={toList:=[46]}} (t+52)] (t+74) (n+46) Value.none,oB "re.Pattern.search" [VR 69,VS {cps:={toList:=[97]}} (t+50)] (t+70) (n+45) Value.none,oB "re.Pattern.search" [VR 74,VS {cps:={toList:=[46]}} (t+11)] (t+47) (n+27) Value.none,oB "re.Pattern.search" [VR 69,VS {cps:={toList:=[99]}} (t+9)] (t+43) (n+26) Value.none,oB "re.Pattern.search" [VR 74,VS {cps:={toList:=[46]}} (t+8)] (t+37) (n+22) Value.none,oB "re.Pattern.search" [VR 69,VS {cps:={toList:=[98]}} (t+6)] (t+33) (n+21) Value.none,oB "re.Pattern.search" [VR 74,VS {cps:={toList:=[46]}} (t+5)] (t+27) (n+17) Value.none,oB "re.Pattern.search" [VR 69,VS {cps:={toList:=[97]}} (t+3)] (t+23) (n+16) Value.none] [89,90,87,79,80,85,84,83,58,50,51,56,55,54,29,21,22,27,26,25] ([(n0+4,dctO [YS P (t+1) (.int 2 (t+94))] 1),(n0+3,listO [.ref (n+9),.ref (n+38),.ref (n+67)] 3),((n+1),listO [.ref (n+3),.ref (n+4),.ref (n+5)] 3),((n+9),Xo (n+8)),((n+8),Xx P (t+16) (n+1)),((n+3),YO [.str (Xz 0 false) (t+3),.str (dotS 1) (t+5)]),((n+4),YO [.str (Xz 1 false) (t+6),.str (dotS 1) (t+8)]),((n+5),YO [.str (Xz 2 false) (t+9),.str (dotS 1) (t+11)]),((n+30),listO [.ref (n+32),.ref (n+33),.ref (n+34)] 3),((n+38),Xo (n+37)),((n+37),Xx P (t+63) (n+30)),((n+32),YO [.str (Xz 0 false) (t+50),.str (dotS 1) (t+52)]),((n+33),YO [.str (Xz 1 false) (t+53),.str (dotS 1) (t+55)]),((n+34),YO [.str (Xz 2 false) (t+56),.str (dotS 1) (t+58)]),((n+59),listO [.ref (n+61),.ref (n+62),.ref (n+63)] 3),((n+67),Xo (n+66)),((n+66),Xx P (t+110) (n+59)),((n+61),YO [.str (Xz 0 false) (t+97),.str (dotS 1) (t+99)]),((n+62),YO [.str (Xz 1 false) (t+100),.str (dotS 1) (t+102)]),((n+63),YO [.str (Xz 2 false) (t+103),.str (dotS 1) (t+105)])])
end
theorem EK(n0 t0 n t:Nat)(dl:Addr)(tt:Int)(ttk:Nat):yR false false P n0 t0 n t dl tt ttk:=by kernel_rfl
theorem EJ(n0 t0 n t:Nat)(dl:Addr)(tt:Int)(ttk:Nat):yR false true P n0 t0 n t dl tt ttk:=by kernel_rfl
theorem EI(n0 t0 n t:Nat)(dl:Addr)(tt:Int)(ttk:Nat):yR true false P n0 t0 n t dl tt ttk:=by kernel_rfl
theorem EH(n0 t0 n t:Nat)(dl:Addr)(tt:Int)(ttk:Nat):yR true true P n0 t0 n t dl tt ttk:=by kernel_rfl
section
variable(n0 t0 n1 t1 n t:Nat)(dl:Addr)(tt:Int)(ttk q:Nat)(vq:Value)(ds:List Value)(de:Nat)
theorem Lt:yR b1 b2 P n0 t0 n t dl tt ttk:=by
 cases b1
 ·cases b2
  ·exact EK ..
  ·exact EJ ..
 ·cases b2
  ·exact EI ..
  ·exact EH ..
def RL:List Nat:=dO 33 0x3020408100040010204001000408000000020c0000000183010204102
def UW:Out:=let xr:=(Lu b1 b2 P n0 t0 dl tt ttk).res;ev (bS b1 b2 P n t) 79 RL [{v:=VI 4 (t+2+1),di:=2,rd:=[6]}] xr.c (xr.k (.ok .next)) xr.K xr.d [(n0+4,dctO [YS P q vq] 1),(n0+0,frameO [kn1 P (t0+0) (.ref dl),Zq P (t0+1) (.int tt ttk)] 2),(dl,listO ds de)] 0 0 [] []
noncomputable def YJ:Code:=(UW b1 b2 P n0 t0 n1 t1 dl tt ttk 0 .none [] 0).res.callee
abbrev Da n0(P:Params) t0 dl tt ttk t n:=((n0+0,frameO [kn1 P (t0+0) (.ref dl),Zq P (t0+1) (.int tt ttk),Je P (t+0) (.ref (n0+3)),Jd P (t+1) (.ref (n+3))] 4):Xp)
theorem GI:SegL (UW b1 b2 P n0 t0 n t dl tt ttk q vq ds de) (YJ b1 b2 P n0 t0 n t dl tt ttk) 6 6 [oB "len" [VR dl] (t+2) (n+4) (VI 4 (t+2+1)) (di:=2) (rd:=[(dl,listO ds de)])] [0,7,2,5,4,3,8] ([(n+5,rgO 0 4),(Da n0 P t0 dl tt ttk t n),(n+3,listO [.ref (n+0),.ref (n+1),.ref (n+2)] 0),(n+0,listO [] 0),(n+1,listO [] 0),(n+2,listO [] 0),(dl,listO ds de)]):=lO
def RK:List Nat:=dO 33 0x3020408100040010204001000408000000020c0000000183010204102
def Dx:Out:=let xr:=(Lu b1 b2 P n0 t0 dl tt ttk).res;ev (bS b1 b2 P n t) 79 RK [{v:=VI 5 (t+2+1),di:=2,rd:=[6]}] xr.c (xr.k (.ok .next)) xr.K xr.d [(n0+4,dctO [YS P q vq] 1),(n0+0,frameO [kn1 P (t0+0) (.ref dl),Zq P (t0+1) (.int tt ttk)] 2),(dl,listO ds de)] 0 0 [] []
abbrev cloC5_ok:Prop:=SegE (Dx b1 b2 P n0 t0 n t dl tt ttk q vq ds de) .stop (YJ b1 b2 P n0 t0 n t dl tt ttk) 6 6 [oB "len" [VR dl] (t+2) (n+4) (VI 5 (t+2+1)) (di:=2) (rd:=[(dl,listO ds de)])] [0,7,2,5,4,3,8] ([(n+5,rgO 0 5),(Da n0 P t0 dl tt ttk t n),(n+3,listO [.ref (n+0),.ref (n+1),.ref (n+2)] 0),(n+0,listO [] 0),(n+1,listO [] 0),(n+2,listO [] 0),(dl,listO ds de)])
end
end

section
variable(b1 b2:Bool)(P:Params)
theorem Jy(n0 t0 n1 t1:Nat)(dl:Addr)(tt:Int)(ttk:Nat):(weightF (YJ b1 b2 P n0 t0 n1 t1 dl tt ttk),quietF (YJ b1 b2 P n0 t0 n1 t1 dl tt ttk))=(0,true):=(GI b1 b2 P n0 t0 n1 t1 dl tt ttk 0 .none [] 0).wq
def Hs:List Nat:=oC [dO 10 0x1050a141020408101,HT,dO 29 0x300001091224105041c3870a141060c1828500082850a14285]
def Wg(n0 t0 n1 t1 n t:Nat)(dl:Addr)(tt:Int)(ttk:Nat)(q0 q1:Nat)(k r r2:Int)(hv mv ds:List Value)(he me de:Nat)(dk:Addr)(i j m:Int)(ti tj tm ed:Nat)(xi mj mi:Addr)(vj:List Value)(ej:Nat)(ms:Str)(ums:Nat):Out:=let xc:=(YJ b1 b2 P n0 t0 n1 t1 dl tt ttk);ev (bS b1 b2 P n t) 145 Hs [{v:=VI k (t+0),di:=1,w:=some (0,rgO (k+1) r2)},{v:=VR dk,rd:=[4]},{v:=Value.bool true},{v:=VR xi,rd:=[5]},{v:=VR mj,rd:=[6]},{v:=VI (m - 1) (t+7),di:=1},{v:=VS ms ums,rd:=[8]}] xc (denF xc) [] 0 [(n1+5,rgO k r),(n0+0,frameO [kn1 P (t0+0) (.ref dl),Zq P (t0+1) (.int tt ttk),Je P q0 (.ref (n0+3)),Jd P q1 (.ref (n1+3))] 4),(n0+3,listO hv he),(n1+3,listO mv me),(dl,listO ds de),(mj,listO vj ej),(Yl dk i ti j tj m tm ed)] 0 0 [] []
section
variable(n0 t0 n1 t1 n2 t2 n3 t3 n4 t4 n t:Nat)(dl:Addr)(tt:Int)(ttk q0 q1:Nat)(k r r2:Int)(hv mv ds:List Value)(he me de:Nat)(dk:Addr)(i j m:Int)(ti tj tm ed:Nat)(xi mj mi:Addr)(vj:List Value)(ej:Nat)(ms:Str)(ums:Nat)(ml:Str)(uml:Nat)(vi:List Value)(ei:Nat)
abbrev Dg n0(P:Params) t0 dl tt ttk q0 q1 n1 t k i ti j tj m tm:=((n0+0,frameO [kn1 P (t0+0) (.ref dl),Zq P (t0+1) (.int tt ttk),Je P q0 (.ref (n0+3)),Jd P q1 (.ref (n1+3)),qi P (t+1) (.int k (t+0)),kn5 P (t+2) (.int i ti),kn6 P (t+3) (.int j tj),kn7 P (t+4) (.int m tm)] 8):Xp)
abbrev cloAH1_s:Prop:=SegE (Wg b1 b2 P n0 t0 n1 t1 n t dl tt ttk q0 q1 k r r2 hv mv ds he me de dk i j m ti tj tm ed xi mj mi vj ej ms ums) .stop (.call (.ref 220) ⟨[.ref xi,.str ms ums],[]⟩) 3 8 [oB "list.__getitem__" [VR mj,VI (m - 1) (t+7)] (t+8) (n+3) (VS ms ums) (rd:=[(mj,listO vj ej)]),oB "int.__sub__" [VI m tm,VI 1 (t+6)] (t+7) (n+3) (VI (m - 1) (t+7)) (di:=1),oB "list.__getitem__" [VR (n1+3),VI j tj] (t+6) (n+3) (VR mj) (rd:=[(n1+3,listO mv me)]),oB "list.__getitem__" [VR (n0+3),VI i ti] (t+6) (n+3) (VR xi) (rd:=[(n0+3,listO hv he)]),oB "int.__gt__" [VI m tm,VI 0 (t+5)] (t+6) (n+3) (Value.bool true),oB "list.__getitem__" [VR dl,VI k (t+0)] (t+2) (n+0) (VR dk) (rd:=[(dl,listO ds de)]),oB "range_iterator.__next__" [VR (n1+5)] (t+0) (n+0) (VI k (t+0)) (di:=1) (w:=some (n1+5,rgO k r,rgO (k+1) r2))] [3,4,5,6,7,8,9] ([(n1+5,rgO (k+1) r2),(Dg n0 P t0 dl tt ttk q0 q1 n1 t k i ti j tj m tm),(n0+3,listO hv he),(n1+3,listO mv me),(dl,listO ds de),(mj,listO vj ej),(Yl dk i ti j tj m tm ed)])
def Hr:List Nat:=dO 13 0x3000808102081020404080
abbrev Lr n0(P:Params) t0 dl tt ttk q0 q1 n1 t2 k i ti j tj m tm hv he:=([(n0+0,frameO [kn1 P (t0+0) (.ref dl),Zq P (t0+1) (.int tt ttk),Je P q0 (.ref (n0+3)),Jd P q1 (.ref (n1+3)),qi P (t2+1) (.int k (t2+0)),kn5 P (t2+2) (.int i ti),kn6 P (t2+3) (.int j tj),kn7 P (t2+4) (.int m tm)] 8),(n0+3,listO hv he)]:ZQ)
def Wf:Out:=let xr:=(Wg b1 b2 P n0 t0 n1 t1 n2 t2 dl tt ttk q0 q1 k r r2 hv mv ds he me de dk i j m ti tj tm ed xi mj mi vj ej ms ums).res;ev (bS b1 b2 P n t) 29 Hr [{v:=VR xi,rd:=[1]},{v:=VI (tt+k) (t+0),di:=1}] xr.c (xr.k (.ok (.ret .none))) xr.K xr.d (Lr n0 P t0 dl tt ttk q0 q1 n1 t2 k i ti j tj m tm hv he) 0 0 [] []
abbrev cloAH2_ok:Prop:=SegE (Wf b1 b2 P n0 t0 n1 t1 n2 t2 n t dl tt ttk q0 q1 k r r2 hv mv ds he me de dk i j m ti tj tm ed xi mj mi vj ej ms ums) .stop (.call (.ref 227) ⟨[.ref xi,.int i ti,.int (tt+k) (t+0)],[]⟩) 0 1 [oB "int.__add__" [VI tt ttk,VI k (t2+0)] (t+0) (n+0) (VI (tt+k) (t+0)) (di:=1),oB "list.__getitem__" [VR (n0+3),VI i ti] (t+0) (n+0) (VR xi) (rd:=[(n0+3,listO hv he)])] [0,1]
  ((Lr n0 P t0 dl tt ttk q0 q1 n1 t2 k i ti j tj m tm hv he))
def Hq:List Nat:=dO 12 0x60008204081010200081
def We:Out:=let xr:=(Wf b1 b2 P n0 t0 n1 t1 n2 t2 n3 t3 dl tt ttk q0 q1 k r r2 hv mv ds he me de dk i j m ti tj tm ed xi mj mi vj ej ms ums).res;ev (bS b1 b2 P n t) 30 Hq [{v:=VR xi,rd:=[1]}] xr.c (xr.k (.ok (.ret (.str ml uml)))) xr.K xr.d (Lr n0 P t0 dl tt ttk q0 q1 n1 t2 k i ti j tj m tm hv he) 0 0 [] []
abbrev Dj n0(P:Params) t0 dl tt ttk q0 q1 n1 t2 k i ti j tj m tm t ml uml hv he:=([(n0+0,frameO [kn1 P (t0+0) (.ref dl),Zq P (t0+1) (.int tt ttk),Je P q0 (.ref (n0+3)),Jd P q1 (.ref (n1+3)),qi P (t2+1) (.int k (t2+0)),kn5 P (t2+2) (.int i ti),kn6 P (t2+3) (.int j tj),kn7 P (t2+4) (.int m tm),XY P (t+0) (.str ml uml)] 9),(n0+3,listO hv he)]:ZQ)
abbrev cloAH3_ok:Prop:=SegE (We b1 b2 P n0 t0 n1 t1 n2 t2 n3 t3 n t dl tt ttk q0 q1 k r r2 hv mv ds he me de dk i j m ti tj tm ed xi mj mi vj ej ms ums ml uml) .stop (.call (.ref 220) ⟨[.ref xi,.str ml uml],[]⟩) 0 1 [oB "list.__getitem__" [VR (n0+3),VI i ti] (t+1) (n+0) (VR xi) (rd:=[(n0+3,listO hv he)])] [0,1]
  ((Dj n0 P t0 dl tt ttk q0 q1 n1 t2 k i ti j tj m tm t ml uml hv he))
def Hp:List Nat:=dO 13 0x204041020408103060c081
abbrev Di n0(P:Params) t0 dl tt ttk q0 q1 n1 t2 k i ti j tj m tm t4 ml uml:=((n0+0,frameO [kn1 P (t0+0) (.ref dl),Zq P (t0+1) (.int tt ttk),Je P q0 (.ref (n0+3)),Jd P q1 (.ref (n1+3)),qi P (t2+1) (.int k (t2+0)),kn5 P (t2+2) (.int i ti),kn6 P (t2+3) (.int j tj),kn7 P (t2+4) (.int m tm),XY P (t4+0) (.str ml uml)] 9):Xp)
def EP:Out:=let xr:=(We b1 b2 P n0 t0 n1 t1 n2 t2 n3 t3 n4 t4 dl tt ttk q0 q1 k r r2 hv mv ds he me de dk i j m ti tj tm ed xi mj mi vj ej ms ums ml uml).res;ev (bS b1 b2 P n t) 28 Hp [{v:=VR mi,rd:=[2]},{v:=Value.none,w:=some (1,listO (vi++[VS ml uml]) (ei+1))}] xr.c (xr.k (.ok (.ret .none))) xr.K xr.d [(Di n0 P t0 dl tt ttk q0 q1 n1 t2 k i ti j tj m tm t4 ml uml),(mi,listO vi ei),(n1+3,listO mv me)] 0 0 [] []
abbrev cloAH4_ok:Prop:=SegE (EP b1 b2 P n0 t0 n1 t1 n2 t2 n3 t3 n4 t4 n t dl tt ttk q0 q1 k r r2 hv mv ds he me de dk i j m ti tj tm ed xi mj mi vj ej ms ums ml uml vi ei) (.again) ((YJ b1 b2 P n0 t0 n1 t1 dl tt ttk)) 0 0 [oB "list.append" [VR mi,VS ml uml] (t+0) (n+0) Value.none (w:=some (mi,listO vi ei,listO (vi++[VS ml uml]) (ei+1))),oB "list.__getitem__" [VR (n1+3),VI i ti] (t+0) (n+0) (VR mi) (rd:=[(n1+3,listO mv me)])] [0,1,2] ([(Di n0 P t0 dl tt ttk q0 q1 n1 t2 k i ti j tj m tm t4 ml uml),(mi,listO (vi++[.str ml uml]) (ei+1)),(n1+3,listO mv me)])
end
def Ho:List Nat:=oC [dO 10 0x1050a141020408101,GX,dO 20 0x6001050a141060c1828500082850a14285]
def Wd(n0 t0 n1 t1 n t:Nat)(dl:Addr)(tt:Int)(ttk:Nat)(q0 q1:Nat)(k r r2:Int)(hv mv ds:List Value)(he me de:Nat)(dk:Addr)(i j m:Int)(ti tj tm ed:Nat)(xi mj mi:Addr)(vj:List Value)(ej:Nat)(ms:Str)(ums:Nat):Out:=let xc:=(YJ b1 b2 P n0 t0 n1 t1 dl tt ttk);ev (bS b1 b2 P n t) 132 Ho [{v:=VI k (t+0),di:=1,w:=some (0,rgO (k+1) r2)},{v:=VR dk,rd:=[4]},{v:=Value.bool false},{v:=VR xi,rd:=[5]},{v:=VI (tt+k) (t+6),di:=1}] xc (denF xc) [] 0 [(n1+5,rgO k r),(n0+0,frameO [kn1 P (t0+0) (.ref dl),Zq P (t0+1) (.int tt ttk),Je P q0 (.ref (n0+3)),Jd P q1 (.ref (n1+3))] 4),(n0+3,listO hv he),(n1+3,listO mv me),(dl,listO ds de),(Yl dk i ti j tj m tm ed)] 0 0 [] []
section
variable(n0 t0 n1 t1 n2 t2 n3 t3 n t:Nat)(dl:Addr)(tt:Int)(ttk q0 q1:Nat)(k r r2:Int)(hv mv ds:List Value)(he me de:Nat)(dk:Addr)(i j m:Int)(ti tj tm ed:Nat)(xi mj mi:Addr)(vj:List Value)(ej:Nat)(ms:Str)(ums:Nat)(ml:Str)(uml:Nat)(vi:List Value)(ei:Nat)
abbrev cloAM1_s:Prop:=SegE (Wd b1 b2 P n0 t0 n1 t1 n t dl tt ttk q0 q1 k r r2 hv mv ds he me de dk i j m ti tj tm ed xi mj mi vj ej ms ums) .stop (.call (.ref 227) ⟨[.ref xi,.int i ti,.int (tt+k) (t+6)],[]⟩) 3 7 [oB "int.__add__" [VI tt ttk,VI k (t+0)] (t+6) (n+3) (VI (tt+k) (t+6)) (di:=1),oB "list.__getitem__" [VR (n0+3),VI i ti] (t+6) (n+3) (VR xi) (rd:=[(n0+3,listO hv he)]),oB "int.__gt__" [VI m tm,VI 0 (t+5)] (t+6) (n+3) (Value.bool false),oB "list.__getitem__" [VR dl,VI k (t+0)] (t+2) (n+0) (VR dk) (rd:=[(dl,listO ds de)]),oB "range_iterator.__next__" [VR (n1+5)] (t+0) (n+0) (VI k (t+0)) (di:=1) (w:=some (n1+5,rgO k r,rgO (k+1) r2))] [3,4,5,6,7,8] ([(n1+5,rgO (k+1) r2),(Dg n0 P t0 dl tt ttk q0 q1 n1 t k i ti j tj m tm),(n0+3,listO hv he),(n1+3,listO mv me),(dl,listO ds de),(Yl dk i ti j tj m tm ed)])
def Hm:List Nat:=dO 12 0x60008204081010200081
def Wc:Out:=let xr:=(Wd b1 b2 P n0 t0 n1 t1 n2 t2 dl tt ttk q0 q1 k r r2 hv mv ds he me de dk i j m ti tj tm ed xi mj mi vj ej ms ums).res;ev (bS b1 b2 P n t) 30 Hm [{v:=VR xi,rd:=[1]}] xr.c (xr.k (.ok (.ret (.str ml uml)))) xr.K xr.d (Lr n0 P t0 dl tt ttk q0 q1 n1 t2 k i ti j tj m tm hv he) 0 0 [] []
abbrev cloAM3_ok:Prop:=SegE (Wc b1 b2 P n0 t0 n1 t1 n2 t2 n t dl tt ttk q0 q1 k r r2 hv mv ds he me de dk i j m ti tj tm ed xi mj mi vj ej ms ums ml uml) .stop (.call (.ref 220) ⟨[.ref xi,.str ml uml],[]⟩) 0 1 [oB "list.__getitem__" [VR (n0+3),VI i ti] (t+1) (n+0) (VR xi) (rd:=[(n0+3,listO hv he)])] [0,1]
  ((Dj n0 P t0 dl tt ttk q0 q1 n1 t2 k i ti j tj m tm t ml uml hv he))
def Hj:List Nat:=dO 13 0x204041020408103060c081
abbrev Dh n0(P:Params) t0 dl tt ttk q0 q1 n1 t2 k i ti j tj m tm t3 ml uml:=((n0+0,frameO [kn1 P (t0+0) (.ref dl),Zq P (t0+1) (.int tt ttk),Je P q0 (.ref (n0+3)),Jd P q1 (.ref (n1+3)),qi P (t2+1) (.int k (t2+0)),kn5 P (t2+2) (.int i ti),kn6 P (t2+3) (.int j tj),kn7 P (t2+4) (.int m tm),XY P (t3+0) (.str ml uml)] 9):Xp)
def EO:Out:=let xr:=(Wc b1 b2 P n0 t0 n1 t1 n2 t2 n3 t3 dl tt ttk q0 q1 k r r2 hv mv ds he me de dk i j m ti tj tm ed xi mj mi vj ej ms ums ml uml).res;ev (bS b1 b2 P n t) 28 Hj [{v:=VR mi,rd:=[2]},{v:=Value.none,w:=some (1,listO (vi++[VS ml uml]) (ei+1))}] xr.c (xr.k (.ok (.ret .none))) xr.K xr.d [(Dh n0 P t0 dl tt ttk q0 q1 n1 t2 k i ti j tj m tm t3 ml uml),(mi,listO vi ei),(n1+3,listO mv me)] 0 0 [] []
abbrev cloAM4_ok:Prop:=SegE (EO b1 b2 P n0 t0 n1 t1 n2 t2 n3 t3 n t dl tt ttk q0 q1 k r r2 hv mv ds he me de dk i j m ti tj tm ed xi mj mi vj ej ms ums ml uml vi ei) (.again) ((YJ b1 b2 P n0 t0 n1 t1 dl tt ttk)) 0 0 [oB "list.append" [VR mi,VS ml uml] (t+0) (n+0) Value.none (w:=some (mi,listO vi ei,listO (vi++[VS ml uml]) (ei+1))),oB "list.__getitem__" [VR (n1+3),VI i ti] (t+0) (n+0) (VR mi) (rd:=[(n1+3,listO mv me)])] [0,1,2] ([(Dh n0 P t0 dl tt ttk q0 q1 n1 t2 k i ti j tj m tm t3 ml uml),(mi,listO (vi++[.str ml uml]) (ei+1)),(n1+3,listO mv me)])
end
end

section
variable(b1 b2:Bool)(P:Params)
def Hi:List Nat:=oC [dO 10 0x1050a141020408101,HT,dO 29 0x300001091224105041c3870a141060c1828500082850a14285]
def Wb(n0 t0 n1 t1 n t:Nat)(dl:Addr)(tt:Int)(ttk:Nat)(q0 q1:Nat)(k r r2:Int)(hv mv ds:List Value)(he me de:Nat)(dk:Addr)(i j m:Int)(ti tj tm ed:Nat)(xi mj mi:Addr)(vj:List Value)(ej:Nat)(ms:Str)(ums:Nat)(q2 q3 q4 q5 q6:Nat)(wt wi wj wm wl:Value):Out:=let xc:=(YJ b1 b2 P n0 t0 n1 t1 dl tt ttk);ev (bS b1 b2 P n t) 145 Hi [{v:=VI k (t+0),di:=1,w:=some (0,rgO (k+1) r2)},{v:=VR dk,rd:=[4]},{v:=Value.bool true},{v:=VR xi,rd:=[5]},{v:=VR mj,rd:=[6]},{v:=VI (m - 1) (t+7),di:=1},{v:=VS ms ums,rd:=[8]}] xc (denF xc) [] 0 [(n1+5,rgO k r),(n0+0,frameO [kn1 P (t0+0) (.ref dl),Zq P (t0+1) (.int tt ttk),Je P q0 (.ref (n0+3)),Jd P q1 (.ref (n1+3)),qi P q2 wt,kn5 P q3 wi,kn6 P q4 wj,kn7 P q5 wm,XY P q6 wl] 9),(n0+3,listO hv he),(n1+3,listO mv me),(dl,listO ds de),(mj,listO vj ej),(Yl dk i ti j tj m tm ed)] 0 0 [] []
section
variable(n0 t0 n1 t1 n2 t2 n3 t3 n4 t4 n t:Nat)(dl:Addr)(tt:Int)(ttk q0 q1:Nat)(k r r2:Int)(hv mv ds:List Value)(he me de:Nat)(dk:Addr)(i j m:Int)(ti tj tm ed:Nat)(xi mj mi:Addr)(vj:List Value)(ej:Nat)(ms:Str)(ums q2 q3 q4 q5 q6:Nat)(wt wi wj wm wl:Value)(ml:Str)(uml:Nat)(vi:List Value)(ei:Nat)
abbrev cloBH1_s:Prop:=SegE (Wb b1 b2 P n0 t0 n1 t1 n t dl tt ttk q0 q1 k r r2 hv mv ds he me de dk i j m ti tj tm ed xi mj mi vj ej ms ums q2 q3 q4 q5 q6 wt wi wj wm wl) .stop (.call (.ref 220) ⟨[.ref xi,.str ms ums],[]⟩) 3 8 [oB "list.__getitem__" [VR mj,VI (m - 1) (t+7)] (t+8) (n+3) (VS ms ums) (rd:=[(mj,listO vj ej)]),oB "int.__sub__" [VI m tm,VI 1 (t+6)] (t+7) (n+3) (VI (m - 1) (t+7)) (di:=1),oB "list.__getitem__" [VR (n1+3),VI j tj] (t+6) (n+3) (VR mj) (rd:=[(n1+3,listO mv me)]),oB "list.__getitem__" [VR (n0+3),VI i ti] (t+6) (n+3) (VR xi) (rd:=[(n0+3,listO hv he)]),oB "int.__gt__" [VI m tm,VI 0 (t+5)] (t+6) (n+3) (Value.bool true),oB "list.__getitem__" [VR dl,VI k (t+0)] (t+2) (n+0) (VR dk) (rd:=[(dl,listO ds de)]),oB "range_iterator.__next__" [VR (n1+5)] (t+0) (n+0) (VI k (t+0)) (di:=1) (w:=some (n1+5,rgO k r,rgO (k+1) r2))] [3,4,5,6,7,8,9] ([(n1+5,rgO (k+1) r2),(n0+0,frameO [kn1 P (t0+0) (.ref dl),Zq P (t0+1) (.int tt ttk),Je P q0 (.ref (n0+3)),Jd P q1 (.ref (n1+3)),qi P q2 (.int k (t+0)),kn5 P q3 (.int i ti),kn6 P q4 (.int j tj),kn7 P q5 (.int m tm),XY P q6 wl] 9),(n0+3,listO hv he),(n1+3,listO mv me),(dl,listO ds de),(mj,listO vj ej),(Yl dk i ti j tj m tm ed)])
def Hh:List Nat:=dO 13 0x3000808102081020404080
abbrev Lo n0(P:Params) t0 dl tt ttk q0 q1 n1 q2 k t2 q3 i ti q4 j tj q5 m tm q6 wl hv he:=([(n0+0,frameO [kn1 P (t0+0) (.ref dl),Zq P (t0+1) (.int tt ttk),Je P q0 (.ref (n0+3)),Jd P q1 (.ref (n1+3)),qi P q2 (.int k (t2+0)),kn5 P q3 (.int i ti),kn6 P q4 (.int j tj),kn7 P q5 (.int m tm),XY P q6 wl] 9),(n0+3,listO hv he)]:ZQ)
def Wa:Out:=let xr:=(Wb b1 b2 P n0 t0 n1 t1 n2 t2 dl tt ttk q0 q1 k r r2 hv mv ds he me de dk i j m ti tj tm ed xi mj mi vj ej ms ums q2 q3 q4 q5 q6 wt wi wj wm wl).res;ev (bS b1 b2 P n t) 29 Hh [{v:=VR xi,rd:=[1]},{v:=VI (tt+k) (t+0),di:=1}] xr.c (xr.k (.ok (.ret .none))) xr.K xr.d (Lo n0 P t0 dl tt ttk q0 q1 n1 q2 k t2 q3 i ti q4 j tj q5 m tm q6 wl hv he) 0 0 [] []
abbrev cloBH2_ok:Prop:=SegE (Wa b1 b2 P n0 t0 n1 t1 n2 t2 n t dl tt ttk q0 q1 k r r2 hv mv ds he me de dk i j m ti tj tm ed xi mj mi vj ej ms ums q2 q3 q4 q5 q6 wt wi wj wm wl) .stop (.call (.ref 227) ⟨[.ref xi,.int i ti,.int (tt+k) (t+0)],[]⟩) 0 1 [oB "int.__add__" [VI tt ttk,VI k (t2+0)] (t+0) (n+0) (VI (tt+k) (t+0)) (di:=1),oB "list.__getitem__" [VR (n0+3),VI i ti] (t+0) (n+0) (VR xi) (rd:=[(n0+3,listO hv he)])] [0,1]
  ((Lo n0 P t0 dl tt ttk q0 q1 n1 q2 k t2 q3 i ti q4 j tj q5 m tm q6 wl hv he))
def Hg:List Nat:=dO 12 0x60008204081010200081
def UZ:Out:=let xr:=(Wa b1 b2 P n0 t0 n1 t1 n2 t2 n3 t3 dl tt ttk q0 q1 k r r2 hv mv ds he me de dk i j m ti tj tm ed xi mj mi vj ej ms ums q2 q3 q4 q5 q6 wt wi wj wm wl).res;ev (bS b1 b2 P n t) 30 Hg [{v:=VR xi,rd:=[1]}] xr.c (xr.k (.ok (.ret (.str ml uml)))) xr.K xr.d (Lo n0 P t0 dl tt ttk q0 q1 n1 q2 k t2 q3 i ti q4 j tj q5 m tm q6 wl hv he) 0 0 [] []
abbrev BI n0(P:Params) t0 dl tt ttk q0 q1 n1 q2 k t2 q3 i ti q4 j tj q5 m tm q6 ml uml:=((n0+0,frameO [kn1 P (t0+0) (.ref dl),Zq P (t0+1) (.int tt ttk),Je P q0 (.ref (n0+3)),Jd P q1 (.ref (n1+3)),qi P q2 (.int k (t2+0)),kn5 P q3 (.int i ti),kn6 P q4 (.int j tj),kn7 P q5 (.int m tm),XY P q6 (.str ml uml)] 9):Xp)
abbrev cloBH3_ok:Prop:=SegE (UZ b1 b2 P n0 t0 n1 t1 n2 t2 n3 t3 n t dl tt ttk q0 q1 k r r2 hv mv ds he me de dk i j m ti tj tm ed xi mj mi vj ej ms ums q2 q3 q4 q5 q6 wt wi wj wm wl ml uml) .stop (.call (.ref 220) ⟨[.ref xi,.str ml uml],[]⟩) 0 1 [oB "list.__getitem__" [VR (n0+3),VI i ti] (t+1) (n+0) (VR xi) (rd:=[(n0+3,listO hv he)])] [0,1] ([(BI n0 P t0 dl tt ttk q0 q1 n1 q2 k t2 q3 i ti q4 j tj q5 m tm q6 ml uml),(n0+3,listO hv he)])
def Hf:List Nat:=dO 13 0x204041020408103060c081
def EN:Out:=let xr:=(UZ b1 b2 P n0 t0 n1 t1 n2 t2 n3 t3 n4 t4 dl tt ttk q0 q1 k r r2 hv mv ds he me de dk i j m ti tj tm ed xi mj mi vj ej ms ums q2 q3 q4 q5 q6 wt wi wj wm wl ml uml).res;ev (bS b1 b2 P n t) 28 Hf [{v:=VR mi,rd:=[2]},{v:=Value.none,w:=some (1,listO (vi++[VS ml uml]) (ei+1))}] xr.c (xr.k (.ok (.ret .none))) xr.K xr.d [(BI n0 P t0 dl tt ttk q0 q1 n1 q2 k t2 q3 i ti q4 j tj q5 m tm q6 ml uml),(mi,listO vi ei),(n1+3,listO mv me)] 0 0 [] []
abbrev cloBH4_ok:Prop:=SegE (EN b1 b2 P n0 t0 n1 t1 n2 t2 n3 t3 n4 t4 n t dl tt ttk q0 q1 k r r2 hv mv ds he me de dk i j m ti tj tm ed xi mj mi vj ej ms ums q2 q3 q4 q5 q6 wt wi wj wm wl ml uml vi ei) (.again) ((YJ b1 b2 P n0 t0 n1 t1 dl tt ttk)) 0 0 [oB "list.append" [VR mi,VS ml uml] (t+0) (n+0) Value.none (w:=some (mi,listO vi ei,listO (vi++[VS ml uml]) (ei+1))),oB "list.__getitem__" [VR (n1+3),VI i ti] (t+0) (n+0) (VR mi) (rd:=[(n1+3,listO mv me)])] [0,1,2] ([(BI n0 P t0 dl tt ttk q0 q1 n1 q2 k t2 q3 i ti q4 j tj q5 m tm q6 ml uml),(mi,listO (vi++[.str ml uml]) (ei+1)),(n1+3,listO mv me)])
end
def He:List Nat:=oC [dO 10 0x1050a141020408101,GX,dO 20 0x6001050a141060c1828500082850a14285]
def UY(n0 t0 n1 t1 n t:Nat)(dl:Addr)(tt:Int)(ttk:Nat)(q0 q1:Nat)(k r r2:Int)(hv mv ds:List Value)(he me de:Nat)(dk:Addr)(i j m:Int)(ti tj tm ed:Nat)(xi mj mi:Addr)(vj:List Value)(ej:Nat)(ms:Str)(ums:Nat)(q2 q3 q4 q5 q6:Nat)(wt wi wj wm wl:Value):Out:=let xc:=(YJ b1 b2 P n0 t0 n1 t1 dl tt ttk);ev (bS b1 b2 P n t) 132 He [{v:=VI k (t+0),di:=1,w:=some (0,rgO (k+1) r2)},{v:=VR dk,rd:=[4]},{v:=Value.bool false},{v:=VR xi,rd:=[5]},{v:=VI (tt+k) (t+6),di:=1}] xc (denF xc) [] 0 [(n1+5,rgO k r),(n0+0,frameO [kn1 P (t0+0) (.ref dl),Zq P (t0+1) (.int tt ttk),Je P q0 (.ref (n0+3)),Jd P q1 (.ref (n1+3)),qi P q2 wt,kn5 P q3 wi,kn6 P q4 wj,kn7 P q5 wm,XY P q6 wl] 9),(n0+3,listO hv he),(n1+3,listO mv me),(dl,listO ds de),(Yl dk i ti j tj m tm ed)] 0 0 [] []
section
variable(n0 t0 n1 t1 n2 t2 n3 t3 n t:Nat)(dl:Addr)(tt:Int)(ttk q0 q1:Nat)(k r r2:Int)(hv mv ds:List Value)(he me de:Nat)(dk:Addr)(i j m:Int)(ti tj tm ed:Nat)(xi mj mi:Addr)(vj:List Value)(ej:Nat)(ms:Str)(ums q2 q3 q4 q5 q6:Nat)(wt wi wj wm wl:Value)(ml:Str)(uml:Nat)(vi:List Value)(ei:Nat)
abbrev cloBM1_s:Prop:=SegE (UY b1 b2 P n0 t0 n1 t1 n t dl tt ttk q0 q1 k r r2 hv mv ds he me de dk i j m ti tj tm ed xi mj mi vj ej ms ums q2 q3 q4 q5 q6 wt wi wj wm wl) .stop (.call (.ref 227) ⟨[.ref xi,.int i ti,.int (tt+k) (t+6)],[]⟩) 3 7 [oB "int.__add__" [VI tt ttk,VI k (t+0)] (t+6) (n+3) (VI (tt+k) (t+6)) (di:=1),oB "list.__getitem__" [VR (n0+3),VI i ti] (t+6) (n+3) (VR xi) (rd:=[(n0+3,listO hv he)]),oB "int.__gt__" [VI m tm,VI 0 (t+5)] (t+6) (n+3) (Value.bool false),oB "list.__getitem__" [VR dl,VI k (t+0)] (t+2) (n+0) (VR dk) (rd:=[(dl,listO ds de)]),oB "range_iterator.__next__" [VR (n1+5)] (t+0) (n+0) (VI k (t+0)) (di:=1) (w:=some (n1+5,rgO k r,rgO (k+1) r2))] [3,4,5,6,7,8] ([(n1+5,rgO (k+1) r2),(n0+0,frameO [kn1 P (t0+0) (.ref dl),Zq P (t0+1) (.int tt ttk),Je P q0 (.ref (n0+3)),Jd P q1 (.ref (n1+3)),qi P q2 (.int k (t+0)),kn5 P q3 (.int i ti),kn6 P q4 (.int j tj),kn7 P q5 (.int m tm),XY P q6 wl] 9),(n0+3,listO hv he),(n1+3,listO mv me),(dl,listO ds de),(Yl dk i ti j tj m tm ed)])
def Hd:List Nat:=dO 12 0x60008204081010200081
def UX:Out:=let xr:=(UY b1 b2 P n0 t0 n1 t1 n2 t2 dl tt ttk q0 q1 k r r2 hv mv ds he me de dk i j m ti tj tm ed xi mj mi vj ej ms ums q2 q3 q4 q5 q6 wt wi wj wm wl).res;ev (bS b1 b2 P n t) 30 Hd [{v:=VR xi,rd:=[1]}] xr.c (xr.k (.ok (.ret (.str ml uml)))) xr.K xr.d (Lo n0 P t0 dl tt ttk q0 q1 n1 q2 k t2 q3 i ti q4 j tj q5 m tm q6 wl hv he) 0 0 [] []
abbrev cloBM3_ok:Prop:=SegE (UX b1 b2 P n0 t0 n1 t1 n2 t2 n t dl tt ttk q0 q1 k r r2 hv mv ds he me de dk i j m ti tj tm ed xi mj mi vj ej ms ums q2 q3 q4 q5 q6 wt wi wj wm wl ml uml) .stop (.call (.ref 220) ⟨[.ref xi,.str ml uml],[]⟩) 0 1 [oB "list.__getitem__" [VR (n0+3),VI i ti] (t+1) (n+0) (VR xi) (rd:=[(n0+3,listO hv he)])] [0,1] ([(BI n0 P t0 dl tt ttk q0 q1 n1 q2 k t2 q3 i ti q4 j tj q5 m tm q6 ml uml),(n0+3,listO hv he)])
def Hc:List Nat:=dO 13 0x204041020408103060c081
def EM:Out:=let xr:=(UX b1 b2 P n0 t0 n1 t1 n2 t2 n3 t3 dl tt ttk q0 q1 k r r2 hv mv ds he me de dk i j m ti tj tm ed xi mj mi vj ej ms ums q2 q3 q4 q5 q6 wt wi wj wm wl ml uml).res;ev (bS b1 b2 P n t) 28 Hc [{v:=VR mi,rd:=[2]},{v:=Value.none,w:=some (1,listO (vi++[VS ml uml]) (ei+1))}] xr.c (xr.k (.ok (.ret .none))) xr.K xr.d [(BI n0 P t0 dl tt ttk q0 q1 n1 q2 k t2 q3 i ti q4 j tj q5 m tm q6 ml uml),(mi,listO vi ei),(n1+3,listO mv me)] 0 0 [] []
abbrev cloBM4_ok:Prop:=SegE (EM b1 b2 P n0 t0 n1 t1 n2 t2 n3 t3 n t dl tt ttk q0 q1 k r r2 hv mv ds he me de dk i j m ti tj tm ed xi mj mi vj ej ms ums q2 q3 q4 q5 q6 wt wi wj wm wl ml uml vi ei) (.again) ((YJ b1 b2 P n0 t0 n1 t1 dl tt ttk)) 0 0 [oB "list.append" [VR mi,VS ml uml] (t+0) (n+0) Value.none (w:=some (mi,listO vi ei,listO (vi++[VS ml uml]) (ei+1))),oB "list.__getitem__" [VR (n1+3),VI i ti] (t+0) (n+0) (VR mi) (rd:=[(n1+3,listO mv me)])] [0,1,2] ([(BI n0 P t0 dl tt ttk q0 q1 n1 q2 k t2 q3 i ti q4 j tj q5 m tm q6 ml uml),(mi,listO (vi++[.str ml uml]) (ei+1)),(n1+3,listO mv me)])
end
end

section
variable(b1 b2:Bool)(P:Params)
def Aj:List Nat:=dO 9 0x2040810004001
section
variable(n0 t0 n1 t1 n2 t2 n t:Nat)(dl:Addr)(tt:Int)(ttk q:Nat)(vq:Value)(ds:List Value)(de q2 q3 q4 q5 q6:Nat)(wt wi wj wm wl:Value)(a:Int)
def cloX:Out:=let xc:=(YJ b1 b2 P n0 t0 n1 t1 dl tt ttk);ev (bS b1 b2 P n t) 21 Aj [] xc (denF xc) [] 0 [(n1+5,rgO a 0)] 0 0 [] []
abbrev cloX_ok:Prop:=XD (cloX b1 b2 P n0 t0 n1 t1 n t dl tt ttk a) 2 0 [] [2] ([(n1+5,rgO a 0)])
def RG:List Nat:=dO 8 0x6040020008101
abbrev Yu n1:=((n1+3,listO [.ref (n1+0),.ref (n1+1),.ref (n1+2)] 0):Xp)
abbrev Gs n0(P:Params) t0 dl tt ttk t1 n1 q2 wt q3 wi q4 wj q5 wm q6 wl:=((n0+0,frameO [kn1 P (t0+0) (.ref dl),Zq P (t0+1) (.int tt ttk),Je P (t1+0) (.ref (n0+3)),Jd P (t1+1) (.ref (n1+3)),qi P q2 wt,kn5 P q3 wi,kn6 P q4 wj,kn7 P q5 wm,XY P q6 wl] 9):Xp)
def GG:Out:=let xr:=(UW b1 b2 P n0 t0 n1 t1 dl tt ttk q vq ds de).res;ev (bS b1 b2 P n t) 21 RG [] xr.c (xr.k (.ok .next)) xr.K xr.d [(Gs n0 P t0 dl tt ttk t1 n1 q2 wt q3 wi q4 wj q5 wm q6 wl),(Yu n1)] 0 0 [] []
noncomputable def VC:Code:=(GG b1 b2 P n0 t0 n1 t1 n2 t2 dl tt ttk 0 .none [] 0 0 0 0 0 0 .none .none .none .none .none).res.callee
abbrev cloY4_ok:Prop:=SegE (GG b1 b2 P n0 t0 n1 t1 n t dl tt ttk q vq ds de q2 q3 q4 q5 q6 wt wi wj wm wl) .stop (VC b1 b2 P n0 t0 n1 t1 n t dl tt ttk) 3 0 [] [0,1,2,3,4] ([(n+2,dctO [] 0),(n+1,listO [] 0),(n+0,itO (n1+3) 0),(Gs n0 P t0 dl tt ttk t1 n1 q2 wt q3 wi q4 wj q5 wm q6 wl),(Yu n1)])
theorem MW:(weightF (GG b1 b2 P n0 t0 n1 t1 n t dl tt ttk q vq ds de q2 q3 q4 q5 q6 wt wi wj wm wl).res.callee,quietF (GG b1 b2 P n0 t0 n1 t1 n t dl tt ttk q vq ds de q2 q3 q4 q5 q6 wt wi wj wm wl).res.callee)=(0,true):=eO
def RF:List Nat:=dO 8 0x6040020008101
def Dv:Out:=let xr:=(Dx b1 b2 P n0 t0 n1 t1 dl tt ttk q vq ds de).res;ev (bS b1 b2 P n t) 21 RF [] xr.c (xr.k (.ok .next)) xr.K xr.d [(Gs n0 P t0 dl tt ttk t1 n1 q2 wt q3 wi q4 wj q5 wm q6 wl),(Yu n1)] 0 0 [] []
abbrev cloY5_ok:Prop:=SegE (Dv b1 b2 P n0 t0 n1 t1 n t dl tt ttk q vq ds de q2 q3 q4 q5 q6 wt wi wj wm wl) .stop (VC b1 b2 P n0 t0 n1 t1 n t dl tt ttk) 3 0 [] [0,1,2,3,4] ([(n+2,dctO [] 0),(n+1,listO [] 0),(n+0,itO (n1+3) 0),(Gs n0 P t0 dl tt ttk t1 n1 q2 wt q3 wi q4 wj q5 wm q6 wl),(Yu n1)])
end
end

section
variable(b1 b2:Bool)(P:Params)
def Ai:Bool->List Nat
 | true=>dO 20 0x60400500142810204183080c1800600180
 | false=>dO 26 0x18100140050a04081060c203060018006001800600183
section
variable(n0 t0 n1 t1 n2 t2 n3 t3 n4 t4 n t:Nat)(dl:Addr)(tt:Int)(ttk:Nat)(ra:Addr)(k:Nat)(rv:List Value)(re:Nat)(ml:Str)(uml q0:Nat)(w0:Value)(rr a0 a1 a2:Addr)(s0 s1 s2:Str)(u0 u1 u2 w0_ w1_ w2_:Nat)(m0 m1 m2:Int)(vs:List Value)(ve:Nat)(v0:List Value)(e0:Nat)
def BM:Out:=let xc:=VC b1 b2 P n0 t0 n1 t1 n2 t2 dl tt ttk;ev (bS b1 b2 P n t) 50 (Ai b2) [] xc (denF xc) [] 0 [(n2+2,dctO [] 0),(n2+1,listO [] 0),(n2+0,itO (n1+3) 0),(Yu n1),(n1+0,listO v0 e0)] 0 0 [] []
noncomputable def J8:Code:=(BM b1 b2 P n0 t0 n1 t1 n2 t2 n3 t3 dl tt ttk [] 0).res.callee
abbrev cloZ_ok:Prop:=SegE (BM b1 b2 P n0 t0 n1 t1 n2 t2 n t dl tt ttk v0 e0) .stop (J8 b1 b2 P n0 t0 n1 t1 n2 t2 n t dl tt ttk) 3 1 [] [0,1,2,3,4,5,6,7] ([(n+2,dctO [] 0),(n+1,listO [] 0),(n+0,itO (n1+0) 0),(n2+2,dctO [kn21 P (t+0) (.ref (n1+0))] 1),(n2+1,listO [] 0),(n2+0,itO (n1+3) 1),(Yu n1),(n1+0,listO v0 e0)])
theorem BL:(weightF (BM b1 b2 P n0 t0 n1 t1 n2 t2 n t dl tt ttk v0 e0).res.callee,quietF (BM b1 b2 P n0 t0 n1 t1 n2 t2 n t dl tt ttk v0 e0).res.callee)=(0,true):=eT
def RJ:Bool->List Nat
 | true=>[2]
 | false=>dO 7 0x80800200081
def Dw:Out:=let xc:=J8 b1 b2 P n0 t0 n1 t1 n2 t2 n3 t3 dl tt ttk;ev (bS b1 b2 P n t) 17 (RJ b2) [] xc (denF xc) [] 0 [(n3+0,itO ra 0)] 0 0 [] []
noncomputable def ZD:Code:=(Dw b1 b2 P n0 t0 n1 t1 n2 t2 n3 t3 0 0 dl tt ttk 0).res.code
abbrev cloMS_ok:Prop:=SegE (Dw b1 b2 P n0 t0 n1 t1 n2 t2 n3 t3 n t dl tt ttk ra) (.again) (ZD b1 b2 P n0 t0 n1 t1 n2 t2 n3 t3 dl tt ttk) 0 0 [] [0] ([(n3+0,itO ra 0)])
def W5:Bool->List Nat
 | true=>dO 8 0x6001000408101
 | false=>dO 8 0x6001000408101
def UV:Out:=let xc:=ZD b1 b2 P n0 t0 n1 t1 n2 t2 n3 t3 dl tt ttk;ev (bS b1 b2 P n t) 22 (W5 b2) [{v:=VS ml uml,rd:=[2],w:=some (0,itO ra (↑k+1))}] xc (denF xc) [] 0 [(n3+0,itO ra k),(n3+2,dctO [] 0),(ra,listO rv re)] 0 0 [] []
abbrev cloMF1_ok:Prop:=SegE (UV b1 b2 P n0 t0 n1 t1 n2 t2 n3 t3 n t dl tt ttk ra k rv re ml uml) .stop (.call (.ref 213) ⟨[.str ml uml],[]⟩) 0 1 [oB "list_iterator.__next__" [VR (n3+0)] (t+0) (n+0) (VS ml uml) (rd:=[(ra,listO rv re)]) (w:=some (n3+0,itO ra ↑k,itO ra (↑k+1)))] [0,1,2] ([(n3+0,itO ra ((k:Int)+1)),(n3+2,dctO [XY P (t+0) (.str ml uml)] 1),(ra,listO rv re)])
def W4:Bool->List Nat
 | true=>oC [dO 7 0x800200081,oq9,HP,[12,12,2,2]]
 | false=>oC [dO 13 0x3000c00306000800200081,oq9,HP,[12,12,2,2]]
def EA:Out:=let xr:=(UV b1 b2 P n0 t0 n1 t1 n2 t2 n3 t3 n4 t4 dl tt ttk ra k rv re ml uml).res;ev (bS b1 b2 P n t) 297 (W4 b2) [{v:=VI (m0 - 1) (t+3),di:=1},{v:=Value.none,w:=some (6 - 2,listO [VI (m0 - 1) (t+3)] 1)},{v:=VI (m1 - 1) (t+7),di:=1},{v:=Value.none,w:=some (9 - 2,listO [VI (m0 - 1) (t+3),VI (m1 - 1) (t+7)] 2)},{v:=VI (m2 - 1) (t+11),di:=1},{v:=Value.none,w:=some (12 - 2,listO [VI (m0 - 1) (t+3),VI (m1 - 1) (t+7),VI (m2 - 1) (t+11)] 3)},{v:=Value.none,w:=some (14+4,listO (vs++[VR (n+1)]) (ve+1))}] xr.c (xr.k (.ok (.ret (.ref rr)))) xr.K xr.d [(rr,listO [.ref a0,.ref a1,.ref a2] 3),(a0,listO [.str s0 u0,.int m0 w0_] 0),(a1,listO [.str s1 u1,.int m1 w1_] 0),(a2,listO [.str s2 u2,.int m2 w2_] 0),(n3+1,listO vs ve)] 0 0 [] []
abbrev S0 n m0 t m1 m2 n3 vs ve:=([(n+1,listO [.int (m0 - 1) (t+3),.int (m1 - 1) (t+7),.int (m2 - 1) (t+11)] 3),(n3+1,listO (vs++[.ref (n+1)]) (ve+1))]:ZQ)
abbrev cloMF2_ok:Prop:=SegE (EA b1 b2 P n0 t0 n1 t1 n2 t2 n3 t3 n4 t4 n t dl tt ttk ra k rv re ml uml rr a0 a1 a2 s0 s1 s2 u0 u1 u2 w0_ w1_ w2_ m0 m1 m2 vs ve) (.again) (ZD b1 b2 P n0 t0 n1 t1 n2 t2 n3 t3 dl tt ttk) 14 12 [oB "list.append" [VR (n3+1),VR (n+1)] (t+12) (n+14) Value.none (w:=some (n3+1,listO vs ve,listO (vs++[VR (n+1)]) (ve+1))),oB "list.append" [VR (n+1),VI (m2 - 1) (t+11)] (t+12) (n+12) Value.none (w:=some (n+1,listO [VI (m0 - 1) (t+3),VI (m1 - 1) (t+7)] 2,listO [VI (m0 - 1) (t+3),VI (m1 - 1) (t+7),VI (m2 - 1) (t+11)] 3)),oB "int.__sub__" [VI m2 w2_,VI 1 (t+10)] (t+11) (n+12) (VI (m2 - 1) (t+11)) (di:=1),oB "list.append" [VR (n+1),VI (m1 - 1) (t+7)] (t+8) (n+9) Value.none (w:=some (n+1,listO [VI (m0 - 1) (t+3)] 1,listO [VI (m0 - 1) (t+3),VI (m1 - 1) (t+7)] 2)),oB "int.__sub__" [VI m1 w1_,VI 1 (t+6)] (t+7) (n+9) (VI (m1 - 1) (t+7)) (di:=1),oB "list.append" [VR (n+1),VI (m0 - 1) (t+3)] (t+4) (n+6) Value.none (w:=some (n+1,{cls:=Value.type SL.s9222952809800978799x4,data:=Data.seq {toList:=[]}},listO [VI (m0 - 1) (t+3)] 1)),oB "int.__sub__" [VI m0 w0_,VI 1 (t+2)] (t+3) (n+6) (VI (m0 - 1) (t+3)) (di:=1)] [12,18]
  ((S0 n m0 t m1 m2 n3 vs ve))
def W3:Bool->List Nat
 | true=>dO 8 0x6001000408101
 | false=>dO 8 0x6001000408101
def UU:Out:=let xc:=ZD b1 b2 P n0 t0 n1 t1 n2 t2 n3 t3 dl tt ttk;ev (bS b1 b2 P n t) 22 (W3 b2) [{v:=VS ml uml,rd:=[2],w:=some (0,itO ra (↑k+1))}] xc (denF xc) [] 0 [(n3+0,itO ra k),(n3+2,dctO [XY P q0 w0] 1),(ra,listO rv re)] 0 0 [] []
abbrev cloMN1_ok:Prop:=SegE (UU b1 b2 P n0 t0 n1 t1 n2 t2 n3 t3 n t dl tt ttk ra k rv re ml uml q0 w0) .stop (.call (.ref 213) ⟨[.str ml uml],[]⟩) 0 1 [oB "list_iterator.__next__" [VR (n3+0)] (t+0) (n+0) (VS ml uml) (rd:=[(ra,listO rv re)]) (w:=some (n3+0,itO ra ↑k,itO ra (↑k+1)))] [0,1,2] ([(n3+0,itO ra ((k:Int)+1)),(n3+2,dctO [XY P q0 (.str ml uml)] 1),(ra,listO rv re)])
def W0:Bool->List Nat
 | true=>oC [dO 7 0x800200081,oq9,HP,[12,12,2,2]]
 | false=>oC [dO 13 0x3000c00306000800200081,oq9,HP,[12,12,2,2]]
def Ez:Out:=let xr:=(UU b1 b2 P n0 t0 n1 t1 n2 t2 n3 t3 n4 t4 dl tt ttk ra k rv re ml uml q0 w0).res;ev (bS b1 b2 P n t) 297 (W0 b2) [{v:=VI (m0 - 1) (t+3),di:=1},{v:=Value.none,w:=some (6 - 2,listO [VI (m0 - 1) (t+3)] 1)},{v:=VI (m1 - 1) (t+7),di:=1},{v:=Value.none,w:=some (9 - 2,listO [VI (m0 - 1) (t+3),VI (m1 - 1) (t+7)] 2)},{v:=VI (m2 - 1) (t+11),di:=1},{v:=Value.none,w:=some (12 - 2,listO [VI (m0 - 1) (t+3),VI (m1 - 1) (t+7),VI (m2 - 1) (t+11)] 3)},{v:=Value.none,w:=some (14+4,listO (vs++[VR (n+1)]) (ve+1))}] xr.c (xr.k (.ok (.ret (.ref rr)))) xr.K xr.d [(rr,listO [.ref a0,.ref a1,.ref a2] 3),(a0,listO [.str s0 u0,.int m0 w0_] 0),(a1,listO [.str s1 u1,.int m1 w1_] 0),(a2,listO [.str s2 u2,.int m2 w2_] 0),(n3+1,listO vs ve)] 0 0 [] []
abbrev cloMN2_ok:Prop:=SegE (Ez b1 b2 P n0 t0 n1 t1 n2 t2 n3 t3 n4 t4 n t dl tt ttk ra k rv re ml uml q0 w0 rr a0 a1 a2 s0 s1 s2 u0 u1 u2 w0_ w1_ w2_ m0 m1 m2 vs ve) (.again) (ZD b1 b2 P n0 t0 n1 t1 n2 t2 n3 t3 dl tt ttk) 14 12 [oB "list.append" [VR (n3+1),VR (n+1)] (t+12) (n+14) Value.none (w:=some (n3+1,listO vs ve,listO (vs++[VR (n+1)]) (ve+1))),oB "list.append" [VR (n+1),VI (m2 - 1) (t+11)] (t+12) (n+12) Value.none (w:=some (n+1,listO [VI (m0 - 1) (t+3),VI (m1 - 1) (t+7)] 2,listO [VI (m0 - 1) (t+3),VI (m1 - 1) (t+7),VI (m2 - 1) (t+11)] 3)),oB "int.__sub__" [VI m2 w2_,VI 1 (t+10)] (t+11) (n+12) (VI (m2 - 1) (t+11)) (di:=1),oB "list.append" [VR (n+1),VI (m1 - 1) (t+7)] (t+8) (n+9) Value.none (w:=some (n+1,listO [VI (m0 - 1) (t+3)] 1,listO [VI (m0 - 1) (t+3),VI (m1 - 1) (t+7)] 2)),oB "int.__sub__" [VI m1 w1_,VI 1 (t+6)] (t+7) (n+9) (VI (m1 - 1) (t+7)) (di:=1),oB "list.append" [VR (n+1),VI (m0 - 1) (t+3)] (t+4) (n+6) Value.none (w:=some (n+1,{cls:=Value.type SL.s9222952809800978799x4,data:=Data.seq {toList:=[]}},listO [VI (m0 - 1) (t+3)] 1)),oB "int.__sub__" [VI m0 w0_,VI 1 (t+2)] (t+3) (n+6) (VI (m0 - 1) (t+3)) (di:=1)] [12,18]
  ((S0 n m0 t m1 m2 n3 vs ve))
def Hb:Bool->List Nat
 | true=>dO 10 0x8102080810004001
 | false=>dO 10 0x8102080810004001
def EG:Out:=let xc:=ZD b1 b2 P n0 t0 n1 t1 n2 t2 n3 t3 dl tt ttk;ev (bS b1 b2 P n t) 22 (Hb b2) [] xc (denF xc) [] 0 [(n3+0,itO ra 0),(ra,listO [] re)] 0 0 [] []
abbrev cloME0_ok:Prop:=XD (EG b1 b2 P n0 t0 n1 t1 n2 t2 n3 t3 n t dl tt ttk ra re) 2 0 [] [2,3] ([(n3+0,GY 0),(ra,listO [] re)])
end
def Ha:Bool->List Nat
 | true=>dO 10 0x8102080810004001
 | false=>dO 10 0x8102080810004001
section
variable(n0 t0 n1 t1 n2 t2 n3 t3 n t:Nat)(dl:Addr)(tt:Int)(ttk:Nat)(ra:Addr)(re:Nat)(a0 a1 a2 a3 a4:Value)
def EF:Out:=let xc:=ZD b1 b2 P n0 t0 n1 t1 n2 t2 n3 t3 dl tt ttk;ev (bS b1 b2 P n t) 22 (Ha b2) [] xc (denF xc) [] 0 [(n3+0,itO ra 1),(ra,listO [a0] re)] 0 0 [] []
abbrev cloME1_ok:Prop:=XD (EF b1 b2 P n0 t0 n1 t1 n2 t2 n3 t3 n t dl tt ttk ra re a0) 2 0 [] [2,3] ([(n3+0,GY 1),(ra,listO [a0] re)])
def W9:Bool->List Nat
 | true=>dO 10 0x8102080810004001
 | false=>dO 10 0x8102080810004001
def EE:Out:=let xc:=ZD b1 b2 P n0 t0 n1 t1 n2 t2 n3 t3 dl tt ttk;ev (bS b1 b2 P n t) 22 (W9 b2) [] xc (denF xc) [] 0 [(n3+0,itO ra 2),(ra,listO [a0,a1] re)] 0 0 [] []
abbrev cloME2_ok:Prop:=XD (EE b1 b2 P n0 t0 n1 t1 n2 t2 n3 t3 n t dl tt ttk ra re a0 a1) 2 0 [] [2,3] ([(n3+0,GY 2),(ra,listO [a0,a1] re)])
def W8:Bool->List Nat
 | true=>dO 10 0x8102080810004001
 | false=>dO 10 0x8102080810004001
def ED:Out:=let xc:=ZD b1 b2 P n0 t0 n1 t1 n2 t2 n3 t3 dl tt ttk;ev (bS b1 b2 P n t) 22 (W8 b2) [] xc (denF xc) [] 0 [(n3+0,itO ra 3),(ra,listO [a0,a1,a2] re)] 0 0 [] []
abbrev cloME3_ok:Prop:=XD (ED b1 b2 P n0 t0 n1 t1 n2 t2 n3 t3 n t dl tt ttk ra re a0 a1 a2) 2 0 [] [2,3] ([(n3+0,GY 3),(ra,listO [a0,a1,a2] re)])
def W7:Bool->List Nat
 | true=>dO 10 0x8102080810004001
 | false=>dO 10 0x8102080810004001
def EC:Out:=let xc:=ZD b1 b2 P n0 t0 n1 t1 n2 t2 n3 t3 dl tt ttk;ev (bS b1 b2 P n t) 22 (W7 b2) [] xc (denF xc) [] 0 [(n3+0,itO ra 4),(ra,listO [a0,a1,a2,a3] re)] 0 0 [] []
abbrev cloME4_ok:Prop:=XD (EC b1 b2 P n0 t0 n1 t1 n2 t2 n3 t3 n t dl tt ttk ra re a0 a1 a2 a3) 2 0 [] [2,3] ([(n3+0,GY 4),(ra,listO [a0,a1,a2,a3] re)])
def W6:Bool->List Nat
 | true=>dO 10 0x8102080810004001
 | false=>dO 10 0x8102080810004001
def EB:Out:=let xc:=ZD b1 b2 P n0 t0 n1 t1 n2 t2 n3 t3 dl tt ttk;ev (bS b1 b2 P n t) 22 (W6 b2) [] xc (denF xc) [] 0 [(n3+0,itO ra 5),(ra,listO [a0,a1,a2,a3,a4] re)] 0 0 [] []
abbrev cloME5_ok:Prop:=XD (EB b1 b2 P n0 t0 n1 t1 n2 t2 n3 t3 n t dl tt ttk ra re a0 a1 a2 a3 a4) 2 0 [] [2,3] ([(n3+0,GY 5),(ra,listO [a0,a1,a2,a3,a4] re)])
end
end

section
variable(b1 b2:Bool)(P:Params)
def WZ:Bool->List Nat
 | true=>oC [FO,[3]]
 | false=>oC [FO,[3]]
section
variable(n0 t0 n1 t1 n2 t2 n3 t3 n4 t4 n5 t5 n t:Nat)(dl:Addr)(tt:Int)(ttk q:Nat)(vq:Value)(ds:List Value)(de q2 q3 q4 q5 q6:Nat)(wt wi wj:Value)(v0:List Value)(e0:Nat)(v1:List Value)(e1:Nat)(v2:List Value)(e2 qm:Nat)(wm wl:Value)(qr:Nat)(vr:Value)
def cloQ0E:Out:=let xr:=(BM b1 b2 P n0 t0 n1 t1 n2 t2 n3 t3 dl tt ttk v0 e0).res;ev (bS b1 b2 P n t) 47 (WZ b2) [] xr.c (xr.k (.ok .next)) xr.K xr.d [(n3+2,dctO [] 0),(n2+2,dctO [kn21 P (t3+0) (.ref (n1+0))] 1),(n2+1,listO [] 0),(n2+0,itO (n1+3) 1),(Yu n1),(n1+1,listO v1 e1)] 0 0 [] []
abbrev Dm n n1 n2(P:Params) t3 n3 v1 e1:=([(n+2,dctO [] 0),(n+1,listO [] 0),(n+0,itO (n1+1) 0),(n2+2,dctO [kn21 P (t3+0) (.ref (n1+1))] 1),(n2+1,listO [.ref (n3+1)] 1),(n2+0,itO (n1+3) 2),(Yu n1),(n1+1,listO v1 e1)]:ZQ)
abbrev cloQ0E_ok:Prop:=SegE (cloQ0E b1 b2 P n0 t0 n1 t1 n2 t2 n3 t3 n t dl tt ttk v0 e0 v1 e1) .stop (J8 b1 b2 P n0 t0 n1 t1 n2 t2 n t dl tt ttk) 3 1 [] [0,1,2,4,5,6,7,8]
  ((Dm n n1 n2 P t3 n3 v1 e1))
def WY:Bool->List Nat
 | true=>oC [[1,1],FO,[3]]
 | false=>oC [[1,1],FO,[3]]
def cloQ0M:Out:=let xr:=(BM b1 b2 P n0 t0 n1 t1 n2 t2 n3 t3 dl tt ttk v0 e0).res;ev (bS b1 b2 P n t) 51 (WY b2) [] xr.c (xr.k (.ok .next)) xr.K xr.d [(n3+2,dctO [XY P qm wm] 1),(n2+2,dctO [kn21 P (t3+0) (.ref (n1+0))] 1),(n2+1,listO [] 0),(n2+0,itO (n1+3) 1),(Yu n1),(n1+1,listO v1 e1)] 0 0 [] []
abbrev cloQ0M_ok:Prop:=SegE (cloQ0M b1 b2 P n0 t0 n1 t1 n2 t2 n3 t3 n t dl tt ttk v0 e0 v1 e1 qm wm) .stop (J8 b1 b2 P n0 t0 n1 t1 n2 t2 n t dl tt ttk) 3 1 [] [0,1,2,4,5,6,7,8]
  ((Dm n n1 n2 P t3 n3 v1 e1))
def WX:Bool->List Nat
 | true=>oC [FO,[3]]
 | false=>oC [FO,[3]]
def cloQ1E:Out:=let xr:=(cloQ0M b1 b2 P n0 t0 n1 t1 n2 t2 n3 t3 n4 t4 dl tt ttk v0 e0 v1 e1 0 .none).res;ev (bS b1 b2 P n t) 47 (WX b2) [] xr.c (xr.k (.ok .next)) xr.K xr.d [(n4+2,dctO [] 0),(n2+2,dctO [kn21 P (t3+0) (.ref (n1+1))] 1),(n2+1,listO [.ref (n3+1)] 1),(n2+0,itO (n1+3) 2),(Yu n1),(n1+2,listO v2 e2)] 0 0 [] []
abbrev Gq n2(P:Params) t3 n1:=((n2+2,dctO [kn21 P (t3+0) (.ref (n1+2))] 1):Xp)
abbrev Dq n n1 n2(P:Params) t3 n3 n4 v2 e2:=([(n+2,dctO [] 0),(n+1,listO [] 0),(n+0,itO (n1+2) 0),(Gq n2 P t3 n1),(n2+1,listO [.ref (n3+1),.ref (n4+1)] 2),(n2+0,itO (n1+3) 3),(Yu n1),(n1+2,listO v2 e2)]:ZQ)
abbrev cloQ1E_ok:Prop:=SegE (cloQ1E b1 b2 P n0 t0 n1 t1 n2 t2 n3 t3 n4 t4 n t dl tt ttk v0 e0 v1 e1 v2 e2) .stop (J8 b1 b2 P n0 t0 n1 t1 n2 t2 n t dl tt ttk) 3 1 [] [0,1,2,4,5,6,7,8]
  ((Dq n n1 n2 P t3 n3 n4 v2 e2))
def WW:Bool->List Nat
 | true=>oC [[1,1],FO,[3]]
 | false=>oC [[1,1],FO,[3]]
def cloQ1M:Out:=let xr:=(cloQ0M b1 b2 P n0 t0 n1 t1 n2 t2 n3 t3 n4 t4 dl tt ttk v0 e0 v1 e1 0 .none).res;ev (bS b1 b2 P n t) 51 (WW b2) [] xr.c (xr.k (.ok .next)) xr.K xr.d [(n4+2,dctO [XY P qm wm] 1),(n2+2,dctO [kn21 P (t3+0) (.ref (n1+1))] 1),(n2+1,listO [.ref (n3+1)] 1),(n2+0,itO (n1+3) 2),(Yu n1),(n1+2,listO v2 e2)] 0 0 [] []
abbrev cloQ1M_ok:Prop:=SegE (cloQ1M b1 b2 P n0 t0 n1 t1 n2 t2 n3 t3 n4 t4 n t dl tt ttk v0 e0 v1 e1 v2 e2 qm wm) .stop (J8 b1 b2 P n0 t0 n1 t1 n2 t2 n t dl tt ttk) 3 1 [] [0,1,2,4,5,6,7,8]
  ((Dq n n1 n2 P t3 n3 n4 v2 e2))
def WV:Bool->List Nat
 | true=>dO 18 0x8408142040010004000c183000c001
 | false=>dO 18 0x8408142040010004000c183000c001
def Ey:Out:=let xr:=(cloQ1M b1 b2 P n0 t0 n1 t1 n2 t2 n3 t3 n4 t4 n5 t5 dl tt ttk v0 e0 v1 e1 v2 e2 0 .none).res;ev (bS b1 b2 P n t) 31 (WV b2) [] xr.c (xr.k (.ok .next)) xr.K xr.d [(n5+2,dctO [] 0),(Gq n2 P t3 n1),(n2+1,listO [.ref (n3+1),.ref (n4+1)] 2),(n2+0,itO (n1+3) 3),(Yu n1)] 0 0 [] []
abbrev cloQ2E_ok:Prop:=XD (Ey b1 b2 P n0 t0 n1 t1 n2 t2 n3 t3 n4 t4 n5 t5 n t dl tt ttk v0 e0 v1 e1 v2 e2) 2 0 [] [3,4,6] ([(Gq n2 P t3 n1),(n2+1,listO [.ref (n3+1),.ref (n4+1),.ref (n5+1)] 3),(Yu n1)])
def WU:Bool->List Nat
 | true=>dO 20 0x21020508100040010003060c0030004081
 | false=>dO 20 0x21020508100040010003060c0030004081
def Ex:Out:=let xr:=(cloQ1M b1 b2 P n0 t0 n1 t1 n2 t2 n3 t3 n4 t4 n5 t5 dl tt ttk v0 e0 v1 e1 v2 e2 0 .none).res;ev (bS b1 b2 P n t) 35 (WU b2) [] xr.c (xr.k (.ok .next)) xr.K xr.d [(n5+2,dctO [XY P qm wm] 1),(Gq n2 P t3 n1),(n2+1,listO [.ref (n3+1),.ref (n4+1)] 2),(n2+0,itO (n1+3) 3),(Yu n1)] 0 0 [] []
abbrev cloQ2M_ok:Prop:=XD (Ex b1 b2 P n0 t0 n1 t1 n2 t2 n3 t3 n4 t4 n5 t5 n t dl tt ttk v0 e0 v1 e1 v2 e2 qm wm) 2 0 [] [3,4,6] ([(Gq n2 P t3 n1),(n2+1,listO [.ref (n3+1),.ref (n4+1),.ref (n5+1)] 3),(Yu n1)])
def RI:List Nat:=[1,1,1]
def CT:Out:=let xr:=(GG b1 b2 P n0 t0 n1 t1 n2 t2 dl tt ttk q vq ds de q2 q3 q4 q5 q6 wt wi wj wm wl).res;ev (bS b1 b2 P n t) 11 RI [] xr.c (xr.k (.ok .next)) xr.K xr.d [(n2+2,dctO [kn21 P qr vr] 1),(Gs n0 P t0 dl tt ttk t1 n1 q2 wt q3 wi q4 wj q5 wm q6 wl)] 0 0 [] []
abbrev cloR4_ok:Prop:=SegE (CT b1 b2 P n0 t0 n1 t1 n2 t2 n t dl tt ttk q vq ds de q2 q3 q4 q5 q6 wt wi wj wm wl qr vr) (.flow (.ret (.ref (n2+1)))) (.call .none {}) 0 0 [] [1] ([(Gs n0 P t0 dl tt ttk t1 n1 q2 wt q3 wi q4 wj q5 wm q6 wl)])
def RH:List Nat:=[1,1,1]
def CQ:Out:=let xr:=(Dv b1 b2 P n0 t0 n1 t1 n2 t2 dl tt ttk q vq ds de q2 q3 q4 q5 q6 wt wi wj wm wl).res;ev (bS b1 b2 P n t) 11 RH [] xr.c (xr.k (.ok .next)) xr.K xr.d [(n2+2,dctO [kn21 P qr vr] 1),(Gs n0 P t0 dl tt ttk t1 n1 q2 wt q3 wi q4 wj q5 wm q6 wl)] 0 0 [] []
abbrev cloR5_ok:Prop:=SegE (CQ b1 b2 P n0 t0 n1 t1 n2 t2 n t dl tt ttk q vq ds de q2 q3 q4 q5 q6 wt wi wj wm wl qr vr) (.flow (.ret (.ref (n2+1)))) (.call .none {}) 0 0 [] [1] ([(Gs n0 P t0 dl tt ttk t1 n1 q2 wt q3 wi q4 wj q5 wm q6 wl)])
end
abbrev Sp(a b:Nat)(c:Addr)(d:Int)(e:Nat):Prop:=∀f g h i j k,cloC5_ok b1 b2 P a b f g c d e h i j k/\∀l m n o p q r s t u v w,cloY5_ok b1 b2 P a b f g l m c d e h i j k n o p q r s t u v w/\∀x y z A,cloR5_ok b1 b2 P a b f g l m x y c d e h i j k n o p q r s t u v w z A
abbrev tclo3(a b f g h i:Nat)(c:Addr)(d:Int)(e j k:Nat)(l m n:Int)(o p q:List Value)(r s t:Nat)(u:Addr)(v w x:Int)(y z A B:Nat)(C D E:Addr)(F:List Value)(G:Nat)(H:Str)(I:Nat):Prop:=∀J K,cloAH2_ok b1 b2 P a b f g h i J K c d e j k l m n o p q r s t u v w x y z A B C D E F G H I/\∀L M N O,cloAH3_ok b1 b2 P a b f g h i J K L M c d e j k l m n o p q r s t u v w x y z A B C D E F G H I N O/\∀Q R S T,cloAH4_ok b1 b2 P a b f g h i J K L M Q R c d e j k l m n o p q r s t u v w x y z A B C D E F G H I N O S T
abbrev tclo2(a b f g:Nat)(c:Addr)(d:Int)(e:Nat):Prop:=∀h i j k l m n o p q r s t u v w x y z A B C D E F G H I,cloAH1_s b1 b2 P a b f g h i c d e j k l m n o p q r s t u v w x y z A B C D E F G H I/\tclo3 b1 b2 P a b f g h i c d e j k l m n o p q r s t u v w x y z A B C D E F G H I
abbrev tclo4(a b f g:Nat)(c:Addr)(d:Int)(e:Nat):Prop:=∀h i j k l m n o p q r s t u v w x y z A B C D E F G H I,cloAM1_s b1 b2 P a b f g h i c d e j k l m n o p q r s t u v w x y z A B C D E F G H I/\∀J K L M,cloAM3_ok b1 b2 P a b f g h i J K c d e j k l m n o p q r s t u v w x y z A B C D E F G H I L M/\∀N O Q R,cloAM4_ok b1 b2 P a b f g h i J K N O c d e j k l m n o p q r s t u v w x y z A B C D E F G H I L M Q R
abbrev tclo6(a b f g h i:Nat)(c:Addr)(d:Int)(e j k:Nat)(l m n:Int)(o p q:List Value)(r s t:Nat)(u:Addr)(v w x:Int)(y z A B:Nat)(C D E:Addr)(F:List Value)(G:Nat)(H:Str)(I J K L M N:Nat)(O Q R S T:Value):Prop:=∀U V,cloBH2_ok b1 b2 P a b f g h i U V c d e j k l m n o p q r s t u v w x y z A B C D E F G H I J K L M N O Q R S T/\∀W X Y Z,cloBH3_ok b1 b2 P a b f g h i U V W X c d e j k l m n o p q r s t u v w x y z A B C D E F G H I J K L M N O Q R S T Y Z/\∀xa xb xc xd,cloBH4_ok b1 b2 P a b f g h i U V W X xa xb c d e j k l m n o p q r s t u v w x y z A B C D E F G H I J K L M N O Q R S T Y Z xc xd
abbrev tclo5(a b f g:Nat)(c:Addr)(d:Int)(e:Nat):Prop:=∀h i j k l m n o p q r s t u v w x y z A B C D E F G H I J K L M N O Q R S T,cloBH1_s b1 b2 P a b f g h i c d e j k l m n o p q r s t u v w x y z A B C D E F G H I J K L M N O Q R S T/\tclo6 b1 b2 P a b f g h i c d e j k l m n o p q r s t u v w x y z A B C D E F G H I J K L M N O Q R S T
abbrev tclo7(a b f g:Nat)(c:Addr)(d:Int)(e:Nat):Prop:=∀h i j k l m n o p q r s t u v w x y z A B C D E F G H I J K L M N O Q R S T,cloBM1_s b1 b2 P a b f g h i c d e j k l m n o p q r s t u v w x y z A B C D E F G H I J K L M N O Q R S T/\∀U V W X,cloBM3_ok b1 b2 P a b f g h i U V c d e j k l m n o p q r s t u v w x y z A B C D E F G H I J K L M N O Q R S T W X/\∀Y Z xa xb,cloBM4_ok b1 b2 P a b f g h i U V Y Z c d e j k l m n o p q r s t u v w x y z A B C D E F G H I J K L M N O Q R S T W X xa xb
abbrev tclo10(a b f g h i j k:Nat)(c:Addr)(d:Int)(e:Nat)(l:List Value)(m:Nat):Prop:=∀n o p q,cloQ0E_ok b1 b2 P a b f g h i j k n o c d e l m p q
abbrev tclo11(a b f g h i j k:Nat)(c:Addr)(d:Int)(e:Nat)(l:List Value)(m:Nat):Prop:=∀n o p q r s,cloQ0M_ok b1 b2 P a b f g h i j k n o c d e l m p q r s/\(cloQ0E b1 b2 P a b f g h i j k n o c d e l m p q).res=(cloQ0M b1 b2 P a b f g h i j k n o c d e l m p q r s).res
abbrev tclo13(a b f g h i j k n o:Nat)(c:Addr)(d:Int)(e:Nat)(l:List Value)(m:Nat)(p:List Value)(q:Nat):Prop:=∀r s t u,cloQ1E_ok b1 b2 P a b f g h i j k n o r s c d e l m p q t u
abbrev tclo14(a b f g h i j k n o:Nat)(c:Addr)(d:Int)(e:Nat)(l:List Value)(m:Nat)(p:List Value)(q:Nat):Prop:=∀r s t u v w,cloQ1M_ok b1 b2 P a b f g h i j k n o r s c d e l m p q t u v w/\(cloQ1E b1 b2 P a b f g h i j k n o r s c d e l m p q t u).res=(cloQ1M b1 b2 P a b f g h i j k n o r s c d e l m p q t u v w).res
abbrev tclo15(a b f g h i j k n o:Nat)(c:Addr)(d:Int)(e:Nat)(l:List Value)(m:Nat)(p:List Value)(q:Nat):Prop:=∀r s t u,(∀v w,cloQ2E_ok b1 b2 P a b f g h i j k n o r s v w c d e l m p q t u)/\∀v w x y,cloQ2M_ok b1 b2 P a b f g h i j k n o r s v w c d e l m p q t u x y
abbrev tclo12(a b f g h i j k:Nat)(c:Addr)(d:Int)(e:Nat)(l:List Value)(m:Nat):Prop:=∀n o p q,tclo13 b1 b2 P a b f g h i j k n o c d e l m p q/\tclo14 b1 b2 P a b f g h i j k n o c d e l m p q/\tclo15 b1 b2 P a b f g h i j k n o c d e l m p q
abbrev tclo9(a b f g h i:Nat)(c:Addr)(d:Int)(e:Nat):Prop:=∀j k l m,cloZ_ok b1 b2 P a b f g h i j k c d e l m/\tclo10 b1 b2 P a b f g h i j k c d e l m/\tclo11 b1 b2 P a b f g h i j k c d e l m/\tclo12 b1 b2 P a b f g h i j k c d e l m
abbrev tclo17(a b f g h i j k:Nat)(c:Addr)(d:Int)(e:Nat):Prop:=∀l m n o p q r s,cloMF1_ok b1 b2 P a b f g h i j k l m c d e n o p q r s/\∀t u v w x y z A B C D E F G H I J K L M,cloMF2_ok b1 b2 P a b f g h i j k l m t u c d e n o p q r s v w x y z A B C D E F G H I J K L M
abbrev tclo18(a b f g h i j k:Nat)(c:Addr)(d:Int)(e:Nat):Prop:=∀l m n o p q r s t u,cloMN1_ok b1 b2 P a b f g h i j k l m c d e n o p q r s t u/\∀v w x y z A B C D E F G H I J K L M N O,cloMN2_ok b1 b2 P a b f g h i j k l m v w c d e n o p q r s t u x y z A B C D E F G H I J K L M N O
abbrev tclo19(a b f g h i j k:Nat)(c:Addr)(d:Int)(e:Nat):Prop:=∀l m n o,cloME0_ok b1 b2 P a b f g h i j k l m c d e n o
abbrev tclo20(a b f g h i j k:Nat)(c:Addr)(d:Int)(e:Nat):Prop:=∀l m n o p,cloME1_ok b1 b2 P a b f g h i j k l m c d e n o p
abbrev tclo21(a b f g h i j k:Nat)(c:Addr)(d:Int)(e:Nat):Prop:=∀l m n o p q,cloME2_ok b1 b2 P a b f g h i j k l m c d e n o p q
abbrev tclo22(a b f g h i j k:Nat)(c:Addr)(d:Int)(e:Nat):Prop:=∀l m n o p q r,cloME3_ok b1 b2 P a b f g h i j k l m c d e n o p q r
abbrev tclo23(a b f g h i j k:Nat)(c:Addr)(d:Int)(e:Nat):Prop:=∀l m n o p q r s,cloME4_ok b1 b2 P a b f g h i j k l m c d e n o p q r s
abbrev tclo24(a b f g h i j k:Nat)(c:Addr)(d:Int)(e:Nat):Prop:=∀l m n o p q r s t,cloME5_ok b1 b2 P a b f g h i j k l m c d e n o p q r s t
abbrev tclo16(a b f g h i:Nat)(c:Addr)(d:Int)(e:Nat):Prop:=∀j k,(∀l m n,cloMS_ok b1 b2 P a b f g h i j k l m c d e n)/\(tclo17 b1 b2 P a b f g h i j k c d e/\tclo18 b1 b2 P a b f g h i j k c d e/\tclo19 b1 b2 P a b f g h i j k c d e/\tclo20 b1 b2 P a b f g h i j k c d e/\tclo21 b1 b2 P a b f g h i j k c d e/\tclo22 b1 b2 P a b f g h i j k c d e/\tclo23 b1 b2 P a b f g h i j k c d e/\tclo24 b1 b2 P a b f g h i j k c d e)
abbrev tclo8(a b f g:Nat)(c:Addr)(d:Int)(e:Nat):Prop:=∀h i,tclo9 b1 b2 P a b f g h i c d e/\tclo16 b1 b2 P a b f g h i c d e
abbrev So(a b:Nat)(c:Addr)(d:Int)(e:Nat):Prop:=∀f g,(tclo2 b1 b2 P a b f g c d e/\tclo4 b1 b2 P a b f g c d e/\tclo5 b1 b2 P a b f g c d e/\tclo7 b1 b2 P a b f g c d e/\∀h i j,cloX_ok b1 b2 P a b f g h i c d e j)/\tclo8 b1 b2 P a b f g c d e
abbrev DR(a b:Nat)(c:Addr)(d:Int)(e:Nat):Prop:=∀f g h i j k l m n o p q r s t u v w,cloY4_ok b1 b2 P a b f g h i c d e j k l m n o p q r s t u v w/\∀x y z A,cloR4_ok b1 b2 P a b f g h i x y c d e j k l m n o p q r s t u v w z A
theorem N4(a b:Nat)(c:Addr)(d:Int)(e:Nat):Sp b1 b2 P a b c d e/\So b1 b2 P a b c d e/\DR b1 b2 P a b c d e:=
 ⟨fun _ _ _ _ _ _=>⟨gO,fun _ _ _ _ _ _ _ _ _ _ _ _=>⟨gO,fun _ _ _ _=>gO⟩⟩,fun _ _=>⟨⟨fun _ _ _ _ _ _ _ _ _ _ _ _ _ _ _ _ _ _ _ _ _ _ _ _ _ _ _ _=>⟨gO,fun _ _=>⟨gO,fun _ _ _ _=>⟨gO,fun _ _ _ _=>gO⟩⟩⟩,fun _ _ _ _ _ _ _ _ _ _ _ _ _ _ _ _ _ _ _ _ _ _ _ _ _ _ _ _=>⟨gO,fun _ _ _ _=>⟨gO,fun _ _ _ _=>gO⟩⟩,fun _ _ _ _ _ _ _ _ _ _ _ _ _ _ _ _ _ _ _ _ _ _ _ _ _ _ _ _ _ _ _ _ _ _ _ _ _ _=>⟨gO,fun _ _=>⟨gO,fun _ _ _ _=>⟨gO,fun _ _ _ _=>gO⟩⟩⟩,fun _ _ _ _ _ _ _ _ _ _ _ _ _ _ _ _ _ _ _ _ _ _ _ _ _ _ _ _ _ _ _ _ _ _ _ _ _ _=>⟨gO,fun _ _ _ _=>⟨gO,fun _ _ _ _=>gO⟩⟩,fun _ _ _=>gO⟩,fun _ _=>⟨fun _ _ _ _=>⟨gT,fun _ _ _ _=>gT,fun _ _ _ _ _ _=>⟨gT,eT⟩,fun _ _ _ _=>⟨fun _ _ _ _=>gT,fun _ _ _ _ _ _=>⟨gT,eT⟩,fun _ _ _ _=>⟨fun _ _=>gT,fun _ _ _ _=>gT⟩⟩⟩,fun _ _=>⟨fun _ _ _=>gT,⟨fun _ _ _ _ _ _ _ _=>⟨gT,fun _ _ _ _ _ _ _ _ _ _ _ _ _ _ _ _ _ _ _ _=>gT⟩,fun _ _ _ _ _ _ _ _ _ _=>⟨gT,fun _ _ _ _ _ _ _ _ _ _ _ _ _ _ _ _ _ _ _ _=>gT⟩,fun _ _ _ _=>gT,fun _ _ _ _ _=>gT,fun _ _ _ _ _ _=>gT,fun _ _ _ _ _ _ _=>gT,fun _ _ _ _ _ _ _ _=>gT,fun _ _ _ _ _ _ _ _ _=>gT⟩⟩⟩⟩,fun _ _ _ _ _ _ _ _ _ _ _ _ _ _ _ _ _ _=>⟨gO,fun _ _ _ _=>gO⟩⟩
section
variable(a b f g h i:Nat)(c:Addr)(d:Int)(e j k:Nat)(l m n:Int)(o p q:List Value)(r s t:Nat)(u:Addr)(v w x:Int)(y z A B:Nat)(C D E:Addr)(F:List Value)(G:Nat)(H:Str)(I J K L M N:Nat)(O Q R S T:Value)
theorem Wp:Sp b1 b2 P a b c d e:=(N4 ..).1
theorem QP:So b1 b2 P a b c d e:=(N4 ..).2.1
theorem DB:tclo2 b1 b2 P a b f g c d e:=(QP _ ..).1.1
theorem Wo:tclo3 b1 b2 P a b f g h i c d e j k l m n o p q r s t u v w x y z A B C D E F G H I:=(DB _ ..).2
theorem Wn:tclo4 b1 b2 P a b f g c d e:=(QP _ ..).1.2.1
theorem DA:tclo5 b1 b2 P a b f g c d e:=(QP _ ..).1.2.2.1
theorem Wm:tclo6 b1 b2 P a b f g h i c d e j k l m n o p q r s t u v w x y z A B C D E F G H I J K L M N O Q R S T:=(DA _ ..).2
theorem Wl:tclo7 b1 b2 P a b f g c d e:=(QP _ ..).1.2.2.2.1
theorem Dz:tclo8 b1 b2 P a b f g c d e:=(QP _ ..).2
theorem GJ:tclo9 b1 b2 P a b f g h i c d e:=(Dz _ ..).1
end
section
variable(n0 t0 n1 t1 n2 t2 n3 t3 n4 t4 n t:Nat)(dl:Addr)(tt:Int)(ttk:Nat)(v0:List Value)(e0:Nat)(v1:List Value)(e1:Nat)(v2:List Value)(e2 qm:Nat)(wm:Value)(a b f g h i j k:Nat)(c:Addr)(d:Int)(e:Nat)(l:List Value)(m:Nat)
theorem yS:tclo12 b1 b2 P a b f g h i j k c d e l m:=(GJ _ ..).2.2.2
theorem Zd:tclo16 b1 b2 P a b f g h i c d e:=(Dz _ ..).2
theorem qt:(cloQ0E b1 b2 P n0 t0 n1 t1 n2 t2 n3 t3 n t dl tt ttk v0 e0 v1 e1).res=(cloQ0M b1 b2 P n0 t0 n1 t1 n2 t2 n3 t3 n t dl tt ttk v0 e0 v1 e1 qm wm).res:=((GJ _ ..).2.2.1 _ ..).2
theorem qq:(cloQ1E b1 b2 P n0 t0 n1 t1 n2 t2 n3 t3 n4 t4 n t dl tt ttk v0 e0 v1 e1 v2 e2).res=(cloQ1M b1 b2 P n0 t0 n1 t1 n2 t2 n3 t3 n4 t4 n t dl tt ttk v0 e0 v1 e1 v2 e2 qm wm).res:=((yS _ ..).2.1 _ ..).2
end
section
variable(n0 t0 n1 t1 n t:Nat)(dl:Addr)(tt:Int)(ttk q0 q1:Nat)(k r r2:Int)(hv mv ds:List Value)(he me de:Nat)(dk:Addr)(i j m:Int)(ti tj tm ed:Nat)(xi mj mi:Addr)(vj:List Value)(ej:Nat)(ms:Str)(ums q2 q3 q4 q5 q6:Nat)(wt wi wj wm wl:Value)
theorem BQ:cloAH1_s b1 b2 P n0 t0 n1 t1 n t dl tt ttk q0 q1 k r r2 hv mv ds he me de dk i j m ti tj tm ed xi mj mi vj ej ms ums:=(DB _ ..).1
theorem BP:cloAM1_s b1 b2 P n0 t0 n1 t1 n t dl tt ttk q0 q1 k r r2 hv mv ds he me de dk i j m ti tj tm ed xi mj mi vj ej ms ums:=(Wn _ ..).1
theorem BO:cloBH1_s b1 b2 P n0 t0 n1 t1 n t dl tt ttk q0 q1 k r r2 hv mv ds he me de dk i j m ti tj tm ed xi mj mi vj ej ms ums q2 q3 q4 q5 q6 wt wi wj wm wl:=(DA _ ..).1
theorem BN:cloBM1_s b1 b2 P n0 t0 n1 t1 n t dl tt ttk q0 q1 k r r2 hv mv ds he me de dk i j m ti tj tm ed xi mj mi vj ej ms ums q2 q3 q4 q5 q6 wt wi wj wm wl:=(Wl _ ..).1
end
end

section
variable(b1 b2:Bool)(P:Params)
def RE:List Nat:=dO 12 0x60008000000810204000
section
variable(n0 t0 n1 t1 n2 t2 n t:Nat)(x:Addr)(ml:Str)(tm q0 q1:Nat)(r:Addr)(rs:List Value)(re k:Nat)(a:Addr)(sn:Str)(un:Nat)(mm:Int)(um ae:Nat)(d l:Addr)(hk q4 q5:Nat)(vn vm:Value)(dd:Str)(ud:Nat)(nd:Int)(e:Str)
def SH:Out:=
 let xc:Code:=.call (.ref 220) ⟨[.ref x,.str ml tm],[]⟩;ev (bS b1 b2 P n t) 27 RE [] xc (XQ xc) [] 0 [] 0 0 [] []
abbrev Ub:Prop:=SegE (SH b1 b2 P n t x ml tm) .stop (.call (.ref 213) ⟨[.str ml tm],[]⟩) 1 2 [] [0] ([(n+0,frameO [XR P (t+0) (.ref x),XY P (t+1) (.str ml tm)] 2)])
def RD:List Nat:=dO 7 0xc0800400102
def Zr:Out:=let xr:=(SH b1 b2 P n0 t0 x ml tm).res;ev (bS b1 b2 P n t) 17 RD [] xr.c (xr.k (.ok (.ret (.ref r)))) xr.K xr.d [(n0+0,frameO [XR P q0 (.ref x),XY P q1 (.str ml tm)] 2),(r,listO rs re)] 0 0 [] []
theorem JR:qW (Zr b1 b2 P n0 t0 n t x ml tm q0 q1 r rs re) 1 0 [] [0,1,2] ([(n+0,itO r 0),(n0+0,frameO [XR P q0 (.ref x),XY P q1 (.str ml tm)] 2),(r,listO rs re)]):=lO
def WO:List Nat:=dO 64 0x600289100000000200000020000002028000142850a14081021408100040010204281020008002040850204001000408008002040804101
def MK:Out:=let xc:=(Zr b1 b2 P n0 t0 n1 t1 x ml tm q0 q1 r rs re).res.callee;ev (bS b1 b2 P n t) 99 WO [{v:=VR a,rd:=[2],w:=some (0,itO r (↑k+1))}] xc (denF xc) [] 0 [(n1+0,itO r k),(n0+0,frameO [XR P q0 (.ref x),XY P q1 (.str ml tm)] 2),(r,listO rs re),(a,listO [.str sn un,.int mm um] ae),(x,Xo d),(d,Xx P hk l)] 0 0 [] []
abbrev hearTA_ok:Prop:=SegE (MK b1 b2 P n0 t0 n1 t1 n t x ml tm q0 q1 r rs re k a sn un mm um ae d l hk) .stop (.call (.ref 144) ⟨[.ref x,.str sn un],[]⟩) 3 2 [oB "list_iterator.__next__" [VR (n1+0)] (t+0) (n+0) (VR a) (rd:=[(r,listO rs re)]) (w:=some (n1+0,itO r ↑k,itO r (↑k+1)))] [3,4,5,6,7,8] ([(n1+0,itO r ((k:Int)+1)),(n0+0,frameO [XR P q0 (.ref x),XY P q1 (.str ml tm),XW P (t+0) (.str sn un),MA P (t+1) (.int mm um)] 4),(r,listO rs re),(a,listO [.str sn un,.int mm um] ae),(x,Xo d),(d,Xx P hk l)])
def WN:List Nat:=dO 64 0x600289100000000200000020000002028000142850a14081021408100040010204281020008002040850204001000408008002040804101
def MJ:Out:=let xc:=(Zr b1 b2 P n0 t0 n1 t1 x ml tm q0 q1 r rs re).res.callee;ev (bS b1 b2 P n t) 99 WN [{v:=VR a,rd:=[2],w:=some (0,itO r (↑k+1))}] xc (denF xc) [] 0 [(n1+0,itO r k),(n0+0,frameO [XR P q0 (.ref x),XY P q1 (.str ml tm),XW P q4 vn,MA P q5 vm] 4),(r,listO rs re),(a,listO [.str sn un,.int mm um] ae),(x,Xo d),(d,Xx P hk l)] 0 0 [] []
abbrev MR n0(P:Params) q0 x q1 ml tm q4 sn un q5 mm um:=((n0+0,frameO [XR P q0 (.ref x),XY P q1 (.str ml tm),XW P q4 (.str sn un),MA P q5 (.int mm um)] 4):Xp)
abbrev hearTB_ok:Prop:=SegE (MJ b1 b2 P n0 t0 n1 t1 n t x ml tm q0 q1 r rs re k a sn un mm um ae d l hk q4 q5 vn vm) .stop (.call (.ref 144) ⟨[.ref x,.str sn un],[]⟩) 3 2 [oB "list_iterator.__next__" [VR (n1+0)] (t+0) (n+0) (VR a) (rd:=[(r,listO rs re)]) (w:=some (n1+0,itO r ↑k,itO r (↑k+1)))] [3,4,5,6,7,8] ([(n1+0,itO r ((k:Int)+1)),(MR n0 P q0 x q1 ml tm q4 sn un q5 mm um),(r,listO rs re),(a,listO [.str sn un,.int mm um] ae),(x,Xo d),(d,Xx P hk l)])
def WS:List Nat:=[2,2,2]
abbrev BD n0(P:Params) q0 x q1 ml tm t2 sn un mm um:=((n0+0,frameO [XR P q0 (.ref x),XY P q1 (.str ml tm),XW P (t2+0) (.str sn un),MA P (t2+1) (.int mm um)] 4):Xp)
def Ek:Out:=let xr:=(MK b1 b2 P n0 t0 n1 t1 n2 t2 x ml tm q0 q1 r rs re k a sn un mm um ae d l hk).res;ev (bS b1 b2 P n t) 13 WS [{v:=VI nd (t+0+1),di:=2},{v:=Value.bool false}] xr.c (xr.k (.ok (.ret (.str dd ud)))) xr.K xr.d [(BD n0 P q0 x q1 ml tm t2 sn un mm um),(x,Xo d),(d,Xx P hk l)] 0 0 [] []
abbrev hearFA_ok:Prop:=SegE (Ek b1 b2 P n0 t0 n1 t1 n2 t2 n t x ml tm q0 q1 r rs re k a sn un mm um ae d l hk dd ud nd) (.again) ((Zr b1 b2 P n0 t0 n1 t1 x ml tm q0 q1 r rs re).res.callee) 0 2 [oB "int.__gt__" [VI mm um,VI nd (t+0+1)] (t+2) (n+0) (Value.bool false),oB "len" [VS dd ud] (t+0) (n+0) (VI nd (t+0+1)) (di:=2)] [0,1,2] ([(BD n0 P q0 x q1 ml tm t2 sn un mm um),(x,Xo d),(d,Xx P hk l)])
def WQ:List Nat:=dO 16 0x600000000800202041000004102
def TY:Out:=let xr:=(MK b1 b2 P n0 t0 n1 t1 n2 t2 x ml tm q0 q1 r rs re k a sn un mm um ae d l hk).res;ev (bS b1 b2 P n t) 36 WQ [{v:=VI nd (t+0+1),di:=2},{v:=Value.bool true},{v:=VS e (t+3),di:=1}] xr.c (xr.k (.ok (.ret (.str dd ud)))) xr.K xr.d [(BD n0 P q0 x q1 ml tm t2 sn un mm um),(x,Xo d),(d,Xx P hk l)] 0 0 [] []
abbrev hearSA_ok:Prop:=SegE (TY b1 b2 P n0 t0 n1 t1 n2 t2 n t x ml tm q0 q1 r rs re k a sn un mm um ae d l hk dd ud nd e) .stop (.call (.ref 110) ⟨[.ref x,.str sn un,.str e (t+3)],[]⟩) 0 4 [oB "str.__mul__" [VS {cps:={toList:=[46]}} (t+2),VI mm um] (t+3) (n+0) (VS e (t+3)) (di:=1),oB "int.__gt__" [VI mm um,VI nd (t+0+1)] (t+2) (n+0) (Value.bool true),oB "len" [VS dd ud] (t+0) (n+0) (VI nd (t+0+1)) (di:=2)] [0,1,2] ([(BD n0 P q0 x q1 ml tm t2 sn un mm um),(x,Xo d),(d,Xx P hk l)])
def WR:List Nat:=[2,2,2]
def Ej:Out:=let xr:=(MJ b1 b2 P n0 t0 n1 t1 n2 t2 x ml tm q0 q1 r rs re k a sn un mm um ae d l hk q4 q5 vn vm).res;ev (bS b1 b2 P n t) 13 WR [{v:=VI nd (t+0+1),di:=2},{v:=Value.bool false}] xr.c (xr.k (.ok (.ret (.str dd ud)))) xr.K xr.d [(MR n0 P q0 x q1 ml tm q4 sn un q5 mm um),(x,Xo d),(d,Xx P hk l)] 0 0 [] []
abbrev hearFB_ok:Prop:=SegE (Ej b1 b2 P n0 t0 n1 t1 n2 t2 n t x ml tm q0 q1 r rs re k a sn un mm um ae d l hk q4 q5 vn vm dd ud nd) (.again) ((Zr b1 b2 P n0 t0 n1 t1 x ml tm q0 q1 r rs re).res.callee) 0 2 [oB "int.__gt__" [VI mm um,VI nd (t+0+1)] (t+2) (n+0) (Value.bool false),oB "len" [VS dd ud] (t+0) (n+0) (VI nd (t+0+1)) (di:=2)] [0,1,2] ([(MR n0 P q0 x q1 ml tm q4 sn un q5 mm um),(x,Xo d),(d,Xx P hk l)])
def WP:List Nat:=dO 16 0x600000000800202041000004102
def TX:Out:=let xr:=(MJ b1 b2 P n0 t0 n1 t1 n2 t2 x ml tm q0 q1 r rs re k a sn un mm um ae d l hk q4 q5 vn vm).res;ev (bS b1 b2 P n t) 36 WP [{v:=VI nd (t+0+1),di:=2},{v:=Value.bool true},{v:=VS e (t+3),di:=1}] xr.c (xr.k (.ok (.ret (.str dd ud)))) xr.K xr.d [(MR n0 P q0 x q1 ml tm q4 sn un q5 mm um),(x,Xo d),(d,Xx P hk l)] 0 0 [] []
abbrev hearSB_ok:Prop:=SegE (TX b1 b2 P n0 t0 n1 t1 n2 t2 n t x ml tm q0 q1 r rs re k a sn un mm um ae d l hk q4 q5 vn vm dd ud nd e) .stop (.call (.ref 110) ⟨[.ref x,.str sn un,.str e (t+3)],[]⟩) 0 4 [oB "str.__mul__" [VS {cps:={toList:=[46]}} (t+2),VI mm um] (t+3) (n+0) (VS e (t+3)) (di:=1),oB "int.__gt__" [VI mm um,VI nd (t+0+1)] (t+2) (n+0) (Value.bool true),oB "len" [VS dd ud] (t+0) (n+0) (VI nd (t+0+1)) (di:=2)] [0,1,2] ([(MR n0 P q0 x q1 ml tm q4 sn un q5 mm um),(x,Xo d),(d,Xx P hk l)])
end
abbrev thear02(a b f g m n:Nat)(c:Addr)(d:Str)(e h i:Nat)(j:Addr)(k:List Value)(l o:Nat)(p:Addr)(q:Str)(r:Nat)(s:Int)(t u:Nat)(v w:Addr)(x:Nat):Prop:=∀y z A B C,hearFA_ok b1 b2 P a b f g m n y z c d e h i j k l o p q r s t u v w x A B C
abbrev thear03(a b f g m n:Nat)(c:Addr)(d:Str)(e h i:Nat)(j:Addr)(k:List Value)(l o:Nat)(p:Addr)(q:Str)(r:Nat)(s:Int)(t u:Nat)(v w:Addr)(x:Nat):Prop:=∀y z A B C D,hearSA_ok b1 b2 P a b f g m n y z c d e h i j k l o p q r s t u v w x A B C D
abbrev thear01(a b f g:Nat)(c:Addr)(d:Str)(e h i:Nat)(j:Addr)(k:List Value)(l:Nat):Prop:=∀m n o p q r s t u v w x,hearTA_ok b1 b2 P a b f g m n c d e h i j k l o p q r s t u v w x/\thear02 b1 b2 P a b f g m n c d e h i j k l o p q r s t u v w x/\thear03 b1 b2 P a b f g m n c d e h i j k l o p q r s t u v w x
abbrev thear05(a b f g m n:Nat)(c:Addr)(d:Str)(e h i:Nat)(j:Addr)(k:List Value)(l o:Nat)(p:Addr)(q:Str)(r:Nat)(s:Int)(t u:Nat)(v w:Addr)(x y z:Nat)(A B:Value):Prop:=∀C D E F G,hearFB_ok b1 b2 P a b f g m n C D c d e h i j k l o p q r s t u v w x y z A B E F G
abbrev thear06(a b f g m n:Nat)(c:Addr)(d:Str)(e h i:Nat)(j:Addr)(k:List Value)(l o:Nat)(p:Addr)(q:Str)(r:Nat)(s:Int)(t u:Nat)(v w:Addr)(x y z:Nat)(A B:Value):Prop:=∀C D E F G H,hearSB_ok b1 b2 P a b f g m n C D c d e h i j k l o p q r s t u v w x y z A B E F G H
abbrev thear04(a b f g:Nat)(c:Addr)(d:Str)(e h i:Nat)(j:Addr)(k:List Value)(l:Nat):Prop:=∀m n o p q r s t u v w x y z A B,hearTB_ok b1 b2 P a b f g m n c d e h i j k l o p q r s t u v w x y z A B/\thear05 b1 b2 P a b f g m n c d e h i j k l o p q r s t u v w x y z A B/\thear06 b1 b2 P a b f g m n c d e h i j k l o p q r s t u v w x y z A B
abbrev NA(a b:Nat)(c:Addr)(d:Str)(e:Nat):Prop:=∀f g h i j k l,thear01 b1 b2 P a b f g c d e h i j k l/\thear04 b1 b2 P a b f g c d e h i j k l
theorem N2(a b:Nat)(c:Addr)(d:Str)(e:Nat):Ub b1 b2 P a b c d e/\NA b1 b2 P a b c d e:=
 ⟨gO,fun _ _ _ _ _ _ _=>⟨fun _ _ _ _ _ _ _ _ _ _ _ _=>⟨gO,fun _ _ _ _ _=>gO,fun _ _ _ _ _ _=>gO⟩,fun _ _ _ _ _ _ _ _ _ _ _ _ _ _ _ _=>⟨gO,fun _ _ _ _ _=>gO,fun _ _ _ _ _ _=>gO⟩⟩⟩
section
variable(a b f g:Nat)(c:Addr)(d:Str)(e h i:Nat)(j:Addr)(k:List Value)(l:Nat)
theorem VE:NA b1 b2 P a b c d e:=(N2 ..).2
theorem Fz:thear01 b1 b2 P a b f g c d e h i j k l:=(VE _ ..).1
theorem Fy:thear04 b1 b2 P a b f g c d e h i j k l:=(VE _ ..).2
end
end

section
variable(b1 b2:Bool)(P:Params)
def WM:List Nat:=[2]
section
variable(n0 t0 n1 t1 n2 t2 n3 t3 n t:Nat)(x:Addr)(ml:Str)(tm q0 q1:Nat)(r:Addr)(v0 v1 v2:Value)(rs:List Value)(re k:Nat)(a:Addr)(sn:Str)(un:Nat)(mm:Int)(um ae:Nat)(d l:Addr)(hk q4 q5:Nat)(vn vm:Value)(dd:Str)(ud:Nat)(nd:Int)(e:Str)
def Ei:Out:=let xr:=(TY b1 b2 P n0 t0 n1 t1 n2 t2 n3 t3 x ml tm q0 q1 r rs re k a sn un mm um ae d l hk dd ud nd e).res;ev (bS b1 b2 P n t) 6 WM [] xr.c (xr.k (.ok (.ret .none))) xr.K xr.d [(BD n0 P q0 x q1 ml tm t2 sn un mm um)] 0 0 [] []
theorem Bt:Seg (Ei b1 b2 P n0 t0 n1 t1 n2 t2 n3 t3 n t x ml tm q0 q1 r rs re k a sn un mm um ae d l hk dd ud nd e) (.again) ((Zr b1 b2 P n0 t0 n1 t1 x ml tm q0 q1 r rs re).res.callee) 0 0 [] [0] ([(BD n0 P q0 x q1 ml tm t2 sn un mm um)]):=sO
def WL:List Nat:=[2]
def Eh:Out:=let xr:=(TX b1 b2 P n0 t0 n1 t1 n2 t2 n3 t3 x ml tm q0 q1 r rs re k a sn un mm um ae d l hk q4 q5 vn vm dd ud nd e).res;ev (bS b1 b2 P n t) 6 WL [] xr.c (xr.k (.ok (.ret .none))) xr.K xr.d [(MR n0 P q0 x q1 ml tm q4 sn un q5 mm um)] 0 0 [] []
theorem Bs:Seg (Eh b1 b2 P n0 t0 n1 t1 n2 t2 n3 t3 n t x ml tm q0 q1 r rs re k a sn un mm um ae d l hk q4 q5 vn vm dd ud nd e) (.again) ((Zr b1 b2 P n0 t0 n1 t1 x ml tm q0 q1 r rs re).res.callee) 0 0 [] [0] ([(MR n0 P q0 x q1 ml tm q4 sn un q5 mm um)]):=sO
def RC:List Nat:=dO 11 0x8102080810004001
def CF:Out:=let xc:=(Zr b1 b2 P n0 t0 n1 t1 x ml tm q0 q1 r [v0,v1,v2] re).res.callee;ev (bS b1 b2 P n t) 23 RC [] xc (denF xc) [] 0 [(n1+0,itO r 3),(r,listO [v0,v1,v2] re)] 0 0 [] []
theorem Ua:Ni (CF b1 b2 P n0 t0 n1 t1 n t x ml tm q0 q1 r v0 v1 v2 re) 2 0 [] [2,3] ([(n1+0,GY 3),(r,listO [v0,v1,v2] re)]):=sO
def RB:List Nat:=[]
def CE:Out:=let xr:=(Zr b1 b2 P n0 t0 n1 t1 x ml tm q0 q1 r [v0,v1,v2] re).res;ev (bS b1 b2 P n t) 6 RB [] xr.c (xr.k (.ok .next)) xr.K xr.d [(n0+0,frameO [XR P q0 (.ref x),XY P q1 (.str ml tm),XW P q4 vn,MA P q5 vm] 4)] 0 0 [] []
theorem TZ:Seg (CE b1 b2 P n0 t0 n1 t1 n t x ml tm q0 q1 r v0 v1 v2 re q4 q5 vn vm) (.flow (.ret .none)) (.call .none {}) 0 0 [] [0] ([(n0+0,frameO [XR P q0 (.ref x),XY P q1 (.str ml tm),XW P q4 vn,MA P q5 vm] 4)]):=sO
end
end

noncomputable abbrev fH(P:Params)(x:Addr)(ml:Str)(tm q0 q1:Nat)(more:List DictEntry)(e:Nat):Obj:=frameO (XR P q0 (.ref x)::XY P q1 (.str ml tm)::more) e
noncomputable abbrev yB(P:Params)(q4 q5:Nat)(vn vm:Value):List DictEntry:=[XW P q4 vn,MA P q5 vm]
structure HS.Ok2 (s:HS):Prop where
 ok:s.Ok
 lo:∀j,1<=s.dots j
 hi:∀j,s.dots j<8
structure HS.Same (s s':HS):Prop where
 x:s'.x=s.x
 d:s'.d=s.d
 l:s'.l=s.l
 hk:s'.hk=s.hk
theorem HS.Same.refl(s:HS):s.Same s:=⟨rfl,rfl,rfl,rfl⟩
theorem HS.Same.trans{s s' s'':HS}(a:s.Same s')(b:s'.Same s''):s.Same s'':=⟨b.x.trans a.x,b.d.trans a.d,b.l.trans a.l,b.hk.trans a.hk⟩
theorem HS.setd_same(s:HS)(q:Nat)(up:Bool)(m:Nat)(a:Addr)(u uv:Nat):s.Same (s.setd q up m a u uv):=by
 unfold HS.setd
 split
 ·exact ⟨rfl,rfl,rfl,rfl⟩
 ·split<;>exact ⟨rfl,rfl,rfl,rfl⟩
theorem HS.setd_ok{s:HS}(ok:s.Ok){q:Nat}(hq:q<3)(up:Bool)(m:Nat)(a:Addr)(u uv:Nat):(s.setd q up m a u uv).Ok:=by
 have q0:=ok.q0;have q1:=ok.q1;have q2:=ok.q2;have d01:=ok.d01;have d02:=ok.d02;have d12:=ok.d12;unfold HS.setd
 split
 ·rename_i e;exact ⟨q1,q2,hq,d12,fun z=>d01 (e.trans z.symm),fun z=>d02 (e.trans z.symm)⟩
 ·rename_i e
  split
  ·rename_i e1;exact ⟨q0,q2,hq,d02,e,fun z=>d12 (e1.trans z.symm)⟩
  ·rename_i e1;exact ⟨q0,q1,hq,d01,e,e1⟩
theorem HS.setd_dots{s:HS}(ok:s.Ok){q:Nat}(hq:q<3)(up:Bool)(m:Nat)(a:Addr)(u uv:Nat)(j:Nat)(hj:j<3):(s.setd q up m a u uv).dots j=if j=q then m else s.dots j:=by
 have p:=fun {q}=>p3 ok.q0 ok.q1 ok.q2 ok.d01 ok.d02 ok.d12 (q:=q);unfold HS.setd
 by_cases e0:s.c0.q=q
 ·rw [if_pos e0];show (if s.c1.q=j then s.c1.n else if s.c2.q=j then s.c2.n else m)=if j=q then m else if s.c0.q=j then s.c0.n else _
  by_cases e:j=q
  ·rw [if_pos e,if_neg (fun z=>ok.d01 (e0.trans (e.symm.trans z.symm))),if_neg (fun z=>ok.d02 (e0.trans (e.symm.trans z.symm)))]
  ·have n0: ¬s.c0.q=j:=fun z=>e (z.symm.trans e0);rw [if_neg e,if_neg n0]
   by_cases f:s.c1.q=j
   ·rw [if_pos f,if_pos f]
   ·rw [if_neg f,if_neg f,if_pos (p hj n0 f)]
 ·rw [if_neg e0]
  by_cases e1:s.c1.q=q
  ·rw [if_pos e1];show (if s.c0.q=j then s.c0.n else if s.c2.q=j then s.c2.n else m)=if j=q then m else if s.c0.q=j then s.c0.n else if s.c1.q=j then s.c1.n else s.c2.n
   by_cases e:j=q
   ·rw [if_pos e,if_neg (fun z=>e0 (z.trans e)),if_neg (fun z=>ok.d12 (e1.trans (e.symm.trans z.symm)))]
   ·have n1: ¬s.c1.q=j:=fun z=>e (z.symm.trans e1);rw [if_neg e,if_neg n1]
    by_cases f:s.c0.q=j
    ·rw [if_pos f,if_pos f]
    ·rw [if_neg f,if_neg f,if_pos (p hj f n1)]
  ·rw [if_neg e1];show (if s.c0.q=j then s.c0.n else if s.c1.q=j then s.c1.n else m)=if j=q then m else if s.c0.q=j then s.c0.n else if s.c1.q=j then s.c1.n else s.c2.n
   by_cases e:j=q
   ·rw [if_pos e,if_neg (fun z=>e0 (z.trans e)),if_neg (fun z=>e1 (z.trans e))]
   ·rw [if_neg e]
    by_cases f:s.c0.q=j
    ·rw [if_pos f,if_pos f]
    ·rw [if_neg f,if_neg f]
     by_cases f1:s.c1.q=j
     ·rw [if_pos f1,if_pos f1]
     ·exact absurd ((p hj f f1).symm.trans (p hq e0 e1)) e
theorem HS.dots_any{s:HS}(ok:s.Ok){p:Nat->Prop}(h:∀j,j<3->p (s.dots j))(j:Nat):p (s.dots j):=by
 by_cases hj:j<3
 ·exact h j hj
 ·have e:s.dots j=s.dots s.c2.q:=by
   have n0: ¬s.c0.q=j:=fun z=>hj (z▸ok.q0);have n1: ¬s.c1.q=j:=fun z=>hj (z▸ok.q1);unfold HS.dots;rw [if_neg n0,if_neg n1,if_neg ok.d02,if_neg ok.d12]
  rw [e];exact h _ ok.q2
theorem HS.setd_ok2{s:HS}(ok:s.Ok2){q:Nat}(hq:q<3)(up:Bool){m:Nat}(h1:1<=m)(h8:m<8)(a:Addr)(u uv:Nat):(s.setd q up m a u uv).Ok2:=by
 have k:=HS.setd_ok ok.ok hq up m a u uv;refine ⟨k,HS.dots_any (p:=fun n=>1<=n) k fun j hj=>?_,HS.dots_any (p:=fun n=>n<8) k fun j hj=>?_⟩
 ·rw [s.setd_dots ok.ok hq up m a u uv j hj]
  split
  ·exact h1
  ·exact ok.lo j
 ·rw [s.setd_dots ok.ok hq up m a u uv j hj]
  split
  ·exact h8
  ·exact ok.hi j
theorem Le{a b c d:Nat}(h:a∈[b,c]):a∈[b,c,d]:=by
 rcases List.mem_cons.mp h with h | h
 ·exact h▸.head _
 ·exact List.mem_singleton.mp h▸.tail _ (.head _)
theorem JU(n:Nat):(dotS n).length=n:=by show (List.replicate n 46).length=n;rw [List.length_replicate]
section
variable{w:World}{A:Around}{g:Array GenState}{dr:Drawn}{os:OsState}
abbrev ZM a q up un m um ae:=((a,listO [.str (Xz q up) un,.int (m:Nat) um] ae):Xp)
theorem MI{R:Result->Shared->Prop}{h:Heap}{tk:Nat}{E:List (Addr×Obj)}{s:HS}{n0 t0 n1 t1:Nat}{ml:Str}{tm q0 q1:Nat}{r:Addr}{rs:List Value}{re k:Nat}{a:Addr}{q:Nat}{up:Bool}{un m um ae:Nat}
  (rm:Room 60 A)(hp:Prog (PP w) h)(ok:s.Ok2)(hq:q<3)(hm:m<8)(hk:rs[k]? =some (.ref a)) (H:Has h ([(n1+0,itO r k),(n0+0,fH w.params s.x ml tm q0 q1 [] 2),(r,listO rs re),(ZM a q up un m um ae)]++(s.cells w.params++E))) (Hn:∀h' tk' s' q4' q5' vn' vm',Prog (PP w) h'->Ext [n1+0,n0+0,s.l] h h'->s'.Ok2->s.Same s'->(∀j,j<3->s'.dots j=if j=q then max (s.dots j) m else s.dots j)-> Has h' ([(n1+0,itO r ((k:Int)+1)),(n0+0,fH w.params s.x ml tm q0 q1 (yB w.params q4' q5' vn' vm') 4),(r,listO rs re),(ZM a q up un m um ae)]++(s'.cells w.params++E))-> codeAny (model pw w) A (Zr (W1 w) (W2 w) w.params n0 t0 n1 t1 s.x ml tm q0 q1 r rs re).res.callee R ⟨h',g,dr,tk',os⟩): codeAny (model pw w) A (Zr (W1 w) (W2 w) w.params n0 t0 n1 t1 s.x ml tm q0 q1 r rs re).res.callee R ⟨h,g,dr,tk,os⟩:=by
 have hw:=(JR (W1 w) (W2 w) w.params n0 t0 n1 t1 s.x ml tm q0 q1 r rs re).wq;simp only [Prod.mk.injEq] at hw;refine Xi ?_;refine Yn (k:=40) [0,1,2,3,5,6] [4,7,8,9] [n1+0,n0+0] (Fz _ ..).1.sg rfl (ob (Ya (k:=k) hk) Xn) rm hp H rfl rfl (Xf (lm:=[(n1+0,itO r k),(n0+0,fH w.params s.x ml tm q0 q1 [] 2)]) [2,3,4,5] rfl rfl) (Xg hw.1) trivial ?_;intro h1 hp1 S1 X1 _ st;have S1':Has h1 ([(n1+0,itO r ((k:Int)+1)),(n0+0,fH w.params s.x ml tm q0 q1 (yB w.params (tk+0) (tk+1) (.str (Xz q up) un) (.int (m:Nat) um)) 4),(r,listO rs re),(ZM a q up un m um ae),(s.x,Xo s.d),(YC s w),(YP s),s.c0.cell,s.c1.cell,s.c2.cell]++E):=S1;refine Yp (s:=s) (st.rm.le (Nat.zero_le _)) hp1 ok.ok hq (S1'.left.pick [6,4,5,7,8,9] rfl) ?_;intro h2 tk2 v hp2 X2;have S2:=S1'.ext X2;have hlt:=ok.hi q;have hle:=ok.lo q;have X12:Ext [n1+0,n0+0] h h2:=X1.trans X2 (fun a ha=>(nomatch ha))
 by_cases c:m>s.dots q
 ·refine Xh (k:=20) [1,4,5] [0,2,3,6,7,8,9] [] ((Fz _ ..).2.2 _ ..).sg rfl
   (ob (Qe (by omega) hm) (ob (XE (decide_eq_true (by omega))) (ob (Z6 (JU _) (by omega)) Xn))) rm hp2 S2 rfl rfl (Xf (lm:=[]) [0,1,2] rfl rfl) st.dd st.kk ?_
  intro h3 hp3 S3 X3 _ st3;have S3':Has h3 (s.cells w.params++([(n1+0,itO r ((k:Int)+1)),(n0+0,fH w.params s.x ml tm q0 q1 (yB w.params (tk+0) (tk+1) (.str (Xz q up) un) (.int (m:Nat) um)) 4),(r,listO rs re),(ZM a q up un m um ae)]++E)):=
   Has.re (l:=[(n0+0,fH w.params s.x ml tm q0 q1 (yB w.params (tk+0) (tk+1) (.str (Xz q up) un) (.int (m:Nat) um)) 4),(s.x,Xo s.d),(YC s w),(n1+0,itO r ((k:Int)+1)),(r,listO rs re),(ZM a q up un m um ae),(YP s),s.c0.cell,s.c1.cell,s.c2.cell]) (l':=[(YP s),(s.x,Xo s.d),(YC s w),s.c0.cell,s.c1.cell,s.c2.cell,(n1+0,itO r ((k:Int)+1)),(n0+0,fH w.params s.x ml tm q0 q1 (yB w.params (tk+0) (tk+1) (.str (Xz q up) un) (.int (m:Nat) um)) 4),(r,listO rs re),(ZM a q up un m um ae)]) S3 [6,1,2,7,8,9,3,0,4,5] rfl
  refine FE (st3.rm.le (Nat.zero_le _)) hp3 ok.ok hq hm S3' ?_;intro h4 tk4 a4 ha4 hp4 X4 S4;have S4':Has h4 ([(n1+0,itO r ((k:Int)+1)),(n0+0,fH w.params s.x ml tm q0 q1 (yB w.params (tk+0) (tk+1) (.str (Xz q up) un) (.int (m:Nat) um)) 4),(r,listO rs re),(ZM a q up un m um ae)]++((s.setd q up m a4 un (tk2+3)).cells w.params++E)):=by
   refine S4.perm ?_;rw [←List.append_assoc,←List.append_assoc];exact List.perm_append_comm.append_right _
  refine Xy [1] [0,2,3] [] (Bt ..) rfl Xn (by rw [Xk];exact hw.2) rm hp4 S4' rfl rfl (Xf (lm:=[]) [0] rfl rfl) st3.dd st3.kk ?_;intro h5 hp5 S5 X5;rw [Xt];have e:=s.setd_dots ok.ok hq up m a4 un (tk2+3);refine Hn h5 _ (s.setd q up m a4 un (tk2+3)) (tk+0) (tk+1) (.str (Xz q up) un) (.int (m:Nat) um) hp5 ?_ (HS.setd_ok2 ok hq up (Nat.le_trans hle (Nat.le_of_lt c)) hm a4 un (tk2+3)) (s.setd_same q up m a4 un (tk2+3)) ?_ ?_
  ·have X35:Ext [] h4 h5:=X5;refine (((X12.to ?_).trans X3 (fun a ha=>(nomatch ha))).trans X4 ?_).trans X5 (fun a ha=>(nomatch ha))
   ·exact fun a ha=>Le ha
   ·intro a ha;rw [List.mem_singleton.mp ha];exact .inl (.tail _ (.tail _ (.head _)))
  ·intro j hj;rw [e j hj]
   by_cases ej:j=q
   ·rw [if_pos ej,if_pos ej,ej,Nat.max_eq_right (Nat.le_of_lt c)]
   ·rw [if_neg ej,if_neg ej]
  ·exact Has.re2 S5 [1,0,2,3] rfl
 ·refine Xy [1,4,5] [0,2,3,6,7,8,9] [] ((Fz _ ..).2.1 _ ..).sg rfl
   (ob (XE (decide_eq_false (by omega))) (ob (Z6 (JU _) (by omega)) Xn)) (by rw [Xk];exact hw.2) rm hp2 S2 rfl rfl (Xf (lm:=[]) [0,1,2] rfl rfl) st.dd st.kk ?_
  intro h3 hp3 S3 X3;rw [Xt];refine Hn h3 _ s (tk+0) (tk+1) (.str (Xz q up) un) (.int (m:Nat) um) hp3 ?_ ok (HS.Same.refl s) ?_ ?_
  ·refine (X12.to ?_).trans X3 (fun a ha=>(nomatch ha));exact fun a ha=>Le ha
  ·intro j hj
   split
   ·rename_i e;rw [e];exact (Nat.max_eq_left (Nat.le_of_not_lt c)).symm
   ·rfl
  ·exact Has.re (l:=[(n0+0,fH w.params s.x ml tm q0 q1 (yB w.params (tk+0) (tk+1) (.str (Xz q up) un) (.int (m:Nat) um)) 4),(s.x,Xo s.d),(YC s w),(n1+0,itO r ((k:Int)+1)),(r,listO rs re),(ZM a q up un m um ae),(YP s),s.c0.cell,s.c1.cell,s.c2.cell]) (l':=[(n1+0,itO r ((k:Int)+1)),(n0+0,fH w.params s.x ml tm q0 q1 (yB w.params (tk+0) (tk+1) (.str (Xz q up) un) (.int (m:Nat) um)) 4),(r,listO rs re),(ZM a q up un m um ae),(YP s),(s.x,Xo s.d),(YC s w),s.c0.cell,s.c1.cell,s.c2.cell]) S3 [3,0,4,5,6,1,2,7,8,9] rfl
theorem yz{R:Result->Shared->Prop}{h:Heap}{tk:Nat}{E:List (Addr×Obj)}{s:HS}{n0 t0 n1 t1:Nat}{x:Addr}{ml:Str}{tm q0 q1:Nat}{r:Addr}{rs:List Value}{re k:Nat}{a:Addr}{q:Nat}{up:Bool}{un m um ae:Nat}{q4 q5:Nat}{vn vm:Value}
  (rm:Room 60 A)(hp:Prog (PP w) h)(ok:s.Ok2)(hx:x=s.x)(hq:q<3)(hm:m<8)(hk:rs[k]? =some (.ref a)) (H:Has h ([(n1+0,itO r k),(n0+0,fH w.params x ml tm q0 q1 (yB w.params q4 q5 vn vm) 4),(r,listO rs re),(ZM a q up un m um ae)]++(s.cells w.params++E))) (Hn:∀h' tk' s' q4' q5' vn' vm',Prog (PP w) h'->Ext [n1+0,n0+0,s.l] h h'->s'.Ok2->s.Same s'->(∀j,j<3->s'.dots j=if j=q then max (s.dots j) m else s.dots j)-> Has h' ([(n1+0,itO r ((k:Int)+1)),(n0+0,fH w.params x ml tm q0 q1 (yB w.params q4' q5' vn' vm') 4),(r,listO rs re),(ZM a q up un m um ae)]++(s'.cells w.params++E))-> codeAny (model pw w) A (Zr (W1 w) (W2 w) w.params n0 t0 n1 t1 x ml tm q0 q1 r rs re).res.callee R ⟨h',g,dr,tk',os⟩): codeAny (model pw w) A (Zr (W1 w) (W2 w) w.params n0 t0 n1 t1 x ml tm q0 q1 r rs re).res.callee R ⟨h,g,dr,tk,os⟩:=by
 subst hx;have hw:=(JR (W1 w) (W2 w) w.params n0 t0 n1 t1 s.x ml tm q0 q1 r rs re).wq;simp only [Prod.mk.injEq] at hw;refine Xi ?_;refine Yn (k:=40) [0,1,2,3,5,6] [4,7,8,9] [n1+0,n0+0] (Fy _ ..).1.sg rfl (ob (Ya (k:=k) hk) Xn) rm hp H rfl rfl (Xf (lm:=[(n1+0,itO r k),(n0+0,fH w.params s.x ml tm q0 q1 (yB w.params q4 q5 vn vm) 4)]) [2,3,4,5] rfl rfl) (Xg hw.1) trivial ?_;intro h1 hp1 S1 X1 _ st;have S1':Has h1 ([(n1+0,itO r ((k:Int)+1)),(n0+0,fH w.params s.x ml tm q0 q1 (yB w.params q4 q5 (.str (Xz q up) un) (.int (m:Nat) um)) 4),(r,listO rs re),(ZM a q up un m um ae),(s.x,Xo s.d),(YC s w),(YP s),s.c0.cell,s.c1.cell,s.c2.cell]++E):=S1;refine Yp (s:=s) (st.rm.le (Nat.zero_le _)) hp1 ok.ok hq (S1'.left.pick [6,4,5,7,8,9] rfl) ?_;intro h2 tk2 v hp2 X2;have S2:=S1'.ext X2;have hlt:=ok.hi q;have hle:=ok.lo q;have X12:Ext [n1+0,n0+0] h h2:=X1.trans X2 (fun a ha=>(nomatch ha))
 by_cases c:m>s.dots q
 ·refine Xh (k:=20) [1,4,5] [0,2,3,6,7,8,9] [] ((Fy _ ..).2.2 _ ..).sg rfl
   (ob (Qe (by omega) hm) (ob (XE (decide_eq_true (by omega))) (ob (Z6 (JU _) (by omega)) Xn))) rm hp2 S2 rfl rfl (Xf (lm:=[]) [0,1,2] rfl rfl) st.dd st.kk ?_
  intro h3 hp3 S3 X3 _ st3;have S3':Has h3 (s.cells w.params++([(n1+0,itO r ((k:Int)+1)),(n0+0,fH w.params s.x ml tm q0 q1 (yB w.params q4 q5 (.str (Xz q up) un) (.int (m:Nat) um)) 4),(r,listO rs re),(ZM a q up un m um ae)]++E)):=
   Has.re (l:=[(n0+0,fH w.params s.x ml tm q0 q1 (yB w.params q4 q5 (.str (Xz q up) un) (.int (m:Nat) um)) 4),(s.x,Xo s.d),(YC s w),(n1+0,itO r ((k:Int)+1)),(r,listO rs re),(ZM a q up un m um ae),(YP s),s.c0.cell,s.c1.cell,s.c2.cell]) (l':=[(YP s),(s.x,Xo s.d),(YC s w),s.c0.cell,s.c1.cell,s.c2.cell,(n1+0,itO r ((k:Int)+1)),(n0+0,fH w.params s.x ml tm q0 q1 (yB w.params q4 q5 (.str (Xz q up) un) (.int (m:Nat) um)) 4),(r,listO rs re),(ZM a q up un m um ae)]) S3 [6,1,2,7,8,9,3,0,4,5] rfl
  refine FE (st3.rm.le (Nat.zero_le _)) hp3 ok.ok hq hm S3' ?_;intro h4 tk4 a4 ha4 hp4 X4 S4;have S4':Has h4 ([(n1+0,itO r ((k:Int)+1)),(n0+0,fH w.params s.x ml tm q0 q1 (yB w.params q4 q5 (.str (Xz q up) un) (.int (m:Nat) um)) 4),(r,listO rs re),(ZM a q up un m um ae)]++((s.setd q up m a4 un (tk2+3)).cells w.params++E)):=by
   refine S4.perm ?_;rw [←List.append_assoc,←List.append_assoc];exact List.perm_append_comm.append_right _
  refine Xy [1] [0,2,3] [] (Bs ..) rfl Xn (by rw [Xk];exact hw.2) rm hp4 S4' rfl rfl (Xf (lm:=[]) [0] rfl rfl) st3.dd st3.kk ?_;intro h5 hp5 S5 X5;rw [Xt];have e:=s.setd_dots ok.ok hq up m a4 un (tk2+3);refine Hn h5 _ (s.setd q up m a4 un (tk2+3)) q4 q5 (.str (Xz q up) un) (.int (m:Nat) um) hp5 ?_ (HS.setd_ok2 ok hq up (Nat.le_trans hle (Nat.le_of_lt c)) hm a4 un (tk2+3)) (s.setd_same q up m a4 un (tk2+3)) ?_ ?_
  ·have X35:Ext [] h4 h5:=X5;refine (((X12.to ?_).trans X3 (fun a ha=>(nomatch ha))).trans X4 ?_).trans X5 (fun a ha=>(nomatch ha))
   ·exact fun a ha=>Le ha
   ·intro a ha;rw [List.mem_singleton.mp ha];exact .inl (.tail _ (.tail _ (.head _)))
  ·intro j hj;rw [e j hj]
   by_cases ej:j=q
   ·rw [if_pos ej,if_pos ej,ej,Nat.max_eq_right (Nat.le_of_lt c)]
   ·rw [if_neg ej,if_neg ej]
  ·exact Has.re2 S5 [1,0,2,3] rfl
 ·refine Xy [1,4,5] [0,2,3,6,7,8,9] [] ((Fy _ ..).2.1 _ ..).sg rfl
   (ob (XE (decide_eq_false (by omega))) (ob (Z6 (JU _) (by omega)) Xn)) (by rw [Xk];exact hw.2) rm hp2 S2 rfl rfl (Xf (lm:=[]) [0,1,2] rfl rfl) st.dd st.kk ?_
  intro h3 hp3 S3 X3;rw [Xt];refine Hn h3 _ s q4 q5 (.str (Xz q up) un) (.int (m:Nat) um) hp3 ?_ ok (HS.Same.refl s) ?_ ?_
  ·refine (X12.to ?_).trans X3 (fun a ha=>(nomatch ha));exact fun a ha=>Le ha
  ·intro j hj
   split
   ·rename_i e;rw [e];exact (Nat.max_eq_left (Nat.le_of_not_lt c)).symm
   ·rfl
  ·exact Has.re (l:=[(n0+0,fH w.params s.x ml tm q0 q1 (yB w.params q4 q5 (.str (Xz q up) un) (.int (m:Nat) um)) 4),(s.x,Xo s.d),(YC s w),(n1+0,itO r ((k:Int)+1)),(r,listO rs re),(ZM a q up un m um ae),(YP s),s.c0.cell,s.c1.cell,s.c2.cell]) (l':=[(n1+0,itO r ((k:Int)+1)),(n0+0,fH w.params s.x ml tm q0 q1 (yB w.params q4 q5 (.str (Xz q up) un) (.int (m:Nat) um)) 4),(r,listO rs re),(ZM a q up un m um ae),(YP s),(s.x,Xo s.d),(YC s w),s.c0.cell,s.c1.cell,s.c2.cell]) S3 [3,0,4,5,6,1,2,7,8,9] rfl
end

noncomputable def FL(a b c:Nat)(j:Nat):Nat:=if j=0 then a else if j=1 then b else c
def SB(p a b c j:Nat):Nat:=rowN (FL a b c j) (p==j)
structure MP where
 p:Nat
 up:Bool
 a:Nat
 b:Nat
 c:Nat
structure MP.Ok (m:MP):Prop where
 p:m.p<3
 a:1<=m.a
 b:1<=m.b
 c:1<=m.c
 s:m.a+m.b+m.c<=7
def MP.S(m:MP):Str:=mailS m.p m.up m.a m.b m.c
def MP.n(m:MP)(j:Nat):Nat:=SB m.p m.a m.b m.c j
theorem MP.Ok.n7{m:MP}(ok:m.Ok)(j:Nat):m.n j<8:=by
 obtain ⟨_,h1,h2,h3,h4⟩:=ok;unfold MP.n SB FL rowN;cases (m.p==j)<;>dsimp only [cond_true,cond_false]<;>(split<;>(try split)<;>lia)
section
variable{w:World}{A:Around}{g:Array GenState}{dr:Drawn}{os:OsState}
abbrev Gg a0(m:MP) t0 s0:=((a0,listO [.str (Xz 0 m.up) t0,.int (m.n 0:Nat) s0] 0):Xp)
abbrev Gf a1(m:MP) t1 s1:=((a1,listO [.str (Xz 1 m.up) t1,.int (m.n 1:Nat) s1] 0):Xp)
abbrev yO a2(m:MP) t2 s2:=((a2,listO [.str (Xz 2 m.up) t2,.int (m.n 2:Nat) s2] 0):Xp)
theorem Za{R:Result->Shared->Prop}{h:Heap}{tk:Nat}{E:List (Addr×Obj)}{s:HS}{m:MP}{u:Nat}(rm:Room 100 A)(hp:Prog (PP w) h)(ok:s.Ok2)(hm:m.Ok) (H:Has h (s.cells w.params++E)) (Hn:∀h' tk' s',Prog (PP w) h'->Ext [s.l] h h'->s'.Ok2->s.Same s'->(∀j,j<3->s'.dots j=max (s.dots j) (m.n j))->Has h' (s'.cells w.params++E)->R (.ok (.ret .none)) ⟨h',g,dr,tk',os⟩): codeAny (model pw w) A (.call (.ref 220) ⟨[.ref s.x,.str m.S u],[]⟩) R ⟨h,g,dr,tk,os⟩:=by
 refine XG (Nat.le_trans (lar) rm.d) (by rw [Yd];exact Nat.zero_le _) ?_;refine Xh (k:=80) (L:=[]) [] [] [] (N2 ..).1.sg rfl Xn rm hp H rfl rfl XS (Nat.le_refl _) trivial ?_;intro h1 hp1 S1 X1 _ st1;refine qf (st1.rm.le (Nat.zero_le _)) hp1 hm.p hm.a hm.b hm.c hm.s ?_;intro h2 tk2 r a0 a1 a2 t0 t1 t2 s0 s1 s2 hp2 X2 hr h0a h1a h2a N;have S2:=S1.new X2 N (by
  intro p hx;simp only [JB,List.mem_cons,List.not_mem_nil,or_false] at hx;rcases hx with rfl | rfl | rfl | rfl
  ·exact hr
  ·exact h0a
  ·exact h1a
  ·exact h2a)
 refine Yn (k:=60)
  [4,0] [1,2,3] [] (JR ..).toSeg rfl Xn rm hp2 S2 rfl rfl (Xf (lm:=[]) [1,2] rfl rfl) st1.dd st1.kk ?_
 intro h3 hp3 S3 X3 _ st3;have S3':Has h3 ([(h2.objs.size+0,itO r (0:Nat)),(h.objs.size+0,fH w.params s.x m.S u (tk+0) (tk+1) [] 2),(Z4 r a0 a1 a2),(Gg a0 m t0 s0)]++(s.cells w.params++([(Gf a1 m t1 s1),(yO a2 m t2 s2)]++E))):=
  Has.re (l:=[(h2.objs.size+0,itO r (0:Nat)),(h.objs.size+0,fH w.params s.x m.S u (tk+0) (tk+1) [] 2),(Z4 r a0 a1 a2),(Gg a0 m t0 s0),(Gf a1 m t1 s1),(yO a2 m t2 s2)]++s.cells w.params)
   (E:=E) S3 [0,1,2,3,6,7,8,9,10,11,4,5] rfl
 refine MI (q:=0) (st3.rm.le (by decide)) hp3 ok (by decide) (hm.n7 0) rfl S3' ?_;intro h4 tk4 s4 q4 q5 vn vm hp4 X4 ok4 sm4 e4 S4;have S4':Has h4 ([(h2.objs.size+0,itO r (1:Nat)),(h.objs.size+0,fH w.params s.x m.S u (tk+0) (tk+1) (yB w.params q4 q5 vn vm) 4),(Z4 r a0 a1 a2),(Gf a1 m t1 s1)]++(s4.cells w.params++([(Gg a0 m t0 s0),(yO a2 m t2 s2)]++E))):=
  Has.re (l:=[(h2.objs.size+0,itO r (1:Nat)),(h.objs.size+0,fH w.params s.x m.S u (tk+0) (tk+1) (yB w.params q4 q5 vn vm) 4),(Z4 r a0 a1 a2),(Gg a0 m t0 s0)]++(s4.cells w.params++[(Gf a1 m t1 s1),(yO a2 m t2 s2)]))
   (E:=E) S4 [0,1,2,10,4,5,6,7,8,9,3,11] rfl
 refine yz (q:=1) (st3.rm.le (by decide)) hp4 ok4 sm4.x.symm (by decide) (hm.n7 1) rfl S4' ?_;intro h5 tk5 s5 q4' q5' vn' vm' hp5 X5 ok5 sm5 e5 S5;have S5':Has h5 ([(h2.objs.size+0,itO r (2:Nat)),(h.objs.size+0,fH w.params s.x m.S u (tk+0) (tk+1) (yB w.params q4' q5' vn' vm') 4),(Z4 r a0 a1 a2),(yO a2 m t2 s2)]++(s5.cells w.params++([(Gg a0 m t0 s0),(Gf a1 m t1 s1)]++E))):=
  Has.re (l:=[(h2.objs.size+0,itO r (2:Nat)),(h.objs.size+0,fH w.params s.x m.S u (tk+0) (tk+1) (yB w.params q4' q5' vn' vm') 4),(Z4 r a0 a1 a2),(Gf a1 m t1 s1)]++(s5.cells w.params++[(Gg a0 m t0 s0),(yO a2 m t2 s2)]))
   (E:=E) S5 [0,1,2,11,4,5,6,7,8,9,10,3] rfl
 refine yz (q:=2) (st3.rm.le (by decide)) hp5 ok5 (sm4.trans sm5).x.symm (by decide) (hm.n7 2) rfl S5' ?_;intro h6 tk6 s6 q4'' q5'' vn'' vm'' hp6 X6 ok6 sm6 e6 S6;have hw:=(JR (W1 w) (W2 w) w.params h.objs.size tk h2.objs.size tk2 s.x m.S u (tk+0) (tk+1) r [.ref a0,.ref a1,.ref a2] 3).wq;simp only [Prod.mk.injEq] at hw;refine Xi ?_;refine Xm (k:=0)
  [0,2] [1,3] [h2.objs.size+0] (Ua ..) rfl Xn (st3.rm.le (Nat.zero_le _)) hp6 S6 rfl rfl (Xf (lm:=[(h2.objs.size+0,itO r (3:Nat))]) [1] rfl rfl) (Xg hw.1) trivial ?_
 intro h7 hp7 S7 X7;refine XF (k:=100)
  [2] [0,1,3] [] (TZ ..) rfl Xn rm hp7 S7 rfl rfl (Xf (lm:=[]) [0] rfl rfl) st3.dd st3.kk ?_
 intro h8 hp8 S8 X8;have nn:∀{P:Addr->Prop},∀a∈([]:List Addr),P a:=fun a ha=>(nomatch ha);have sz:h.objs.size<=h2.objs.size:=Nat.le_trans X1.size X2.size;refine Hn h8 _ s6 hp8 ?_ ok6 ((sm4.trans sm5).trans sm6) ?_ ?_
 ·have f:∀{l:Addr},l=s.l->∀a∈[h2.objs.size+0,h.objs.size+0,l],a∈[s.l]\/h.objs.size<=a:=by
   intro l hl;subst hl;exact aL (.inr (Nat.le_trans sz (lar))) (aL (.inr (lar)) (aL (.inl (.head _)) aN))
  have Y3:Ext [s.l] h h3:=((X1.trans X2 nn).trans X3 nn).to nn;have Y4:=Y3.trans X4 (f rfl);have Y5:=Y4.trans X5 (f sm4.l);have Y6:=Y5.trans X6 (f (sm4.trans sm5).l);refine (Y6.trans X7 ?_).trans X8 nn;intro a ha;rw [List.mem_singleton.mp ha];exact .inr (Nat.le_trans sz (lar))
 ·intro j hj;rw [e6 j hj,e5 j hj,e4 j hj];have:j=0\/j=1\/j=2:=lt3 (by assumption);rcases this with rfl | rfl | rfl<;>simp
 ·have S9:Has h8 ([(h.objs.size+0,fH w.params s.x m.S u (tk+0) (tk+1) (yB w.params q4'' q5'' vn'' vm'') 4),(h2.objs.size+0,GY 3),(Z4 r a0 a1 a2),(yO a2 m t2 s2)]++(s6.cells w.params++([(Gg a0 m t0 s0),(Gf a1 m t1 s1)]++E))):=S8;have S10:=S9.right;have S11:Has h8 ((s6.cells w.params++[(Gg a0 m t0 s0),(Gf a1 m t1 s1)])++E):=by rw [List.append_assoc];exact S10
  exact Has.re S11 [0,1,2,3,4,5] rfl
end

section
variable(b1 b2:Bool)(P:Params)
def Kl:List Nat:=oC [D4,dO 17 0x3001030500000000a000000a00000]
section
variable(n0 t0 n1 t1 n2 t2 n3 t3 n t:Nat)(x d l:Addr)(hk tp:Nat)(tr:Int)(ttr:Nat)(cs:Str)(uc:Nat)(c0 d0:Str)(v0:Nat)(r0 w0 s0 T0:Str)(us0 uc1:Nat)(c1 d1:Str)(v1:Nat)(r1 w1 s1 T1:Str)(us1 uc2:Nat)(c2 d2:Str)(v2:Nat)(r2 w2 s2 T2:Str)(us2:Nat)(mm:Str)(um:Nat)
def NV:Out:=
 let xc:Code:=.call (.ref 227) ⟨[.ref x,.int 0 tp,.int tr ttr],[]⟩;ev (bS b1 b2 P n t) 144 Kl [{v:=VI (tr.fmod 2) (t+13),di:=1},{v:=VS cs uc,rd:=[0]},{v:=VS c0 (t+14),di:=1}] xc (XQ xc) [] 0 [(x,Xo d),(d,Xx P hk l)] 0 0 [] []
abbrev Mx:Prop:=SegE (NV b1 b2 P n t x d l hk tp tr ttr cs uc c0) .stop (.call (.ref 144) ⟨[.ref x,.str c0 (t+14)],[]⟩) 4 16 [oB "str.__getitem__" [VS cs uc,VI 0 (t+8)] (t+14) (n+4) (VS c0 (t+14)) (di:=1),oB "list.__getitem__" [VR (n+3),VI (tr.fmod 2) (t+13)] (t+14) (n+4) (VS cs uc) (rd:=[(n+3,{cls:=Value.type SL.s9222952809800978799x4,data:=Data.seq {toList:=[VS {cps:={toList:=[97,98,99]}} (t+10),VS {cps:={toList:=[65,66,67]}} (t+11)]}})]),oB "int.__mod__" [VI tr ttr,VI 2 (t+12)] (t+13) (n+4) (VI (tr.fmod 2) (t+13)) (di:=1)] [1,3,4,5] ([(n+2,rgO 1 2),(n+0,frameO [XR P (t+0) (.ref x),YS P (t+1) (.int 0 tp),Yk P (t+2) (.int tr ttr),Yj P (t+4) (.str ⟨⟨[]⟩⟩ (t+3)),Yi P (t+9) (.int 0 (t+8)),XW P (t+15) (.str c0 (t+14))] 6),(x,Xo d),(d,Xx P hk l)])
def Kk:List Nat:=oC [Be,dO 10 0x18008182800000005]
def NU:Out:=let xr:=(NV b1 b2 P n0 t0 x d l hk tp tr ttr cs uc c0).res;ev (bS b1 b2 P n t) 151 Kk [{v:=VS r0 (t+1),di:=1},{v:=VS w0 (t+1)},{v:=VI (tr+0) (t+6),di:=1},{v:=VI ((tr+0).fmod 3) (t+8),di:=1},{v:=VS s0 us0,rd:=[0]},{v:=VS T0 (t+9),di:=1},{v:=VI (tr.fmod 2) (t+16),di:=1},{v:=VS cs uc1,rd:=[0]},{v:=VS c1 (t+17),di:=1}] xr.c (xr.k (.ok (.ret (.str d0 v0)))) xr.K xr.d [(n0+2,rgO 1 2),(n0+0,frameO [XR P (t0+0) (.ref x),YS P (t0+1) (.int 0 tp),Yk P (t0+2) (.int tr ttr),Yj P (t0+4) (.str ⟨⟨[]⟩⟩ (t0+3)),Yi P (t0+9) (.int 0 (t0+8)),XW P (t0+15) (.str c0 (t0+14))] 6),(x,Xo d),(d,Xx P hk l)] 0 0 [] []
abbrev mail0_1_s:Prop:=SegE (NU b1 b2 P n0 t0 n t x d l hk tp tr ttr cs uc c0 d0 v0 r0 w0 s0 T0 us0 uc1 c1) .stop (.call (.ref 144) ⟨[.ref x,.str c1 (t+17)],[]⟩) 2 19 [oB "str.__getitem__" [VS cs uc1,VI 1 (t+11)] (t+17) (n+2) (VS c1 (t+17)) (di:=1),oB "list.__getitem__" [VR (n+1),VI (tr.fmod 2) (t+16)] (t+17) (n+2) (VS cs uc1) (rd:=[(n+1,{cls:=Value.type SL.s9222952809800978799x4,data:=Data.seq {toList:=[VS {cps:={toList:=[97,98,99]}} (t+13),VS {cps:={toList:=[65,66,67]}} (t+14)]}})]),oB "int.__mod__" [VI tr ttr,VI 2 (t+15)] (t+16) (n+2) (VI (tr.fmod 2) (t+16)) (di:=1),oB "str.__add__" [VS w0 (t+1),VS s0 us0] (t+9) (n+1) (VS T0 (t+9)) (di:=1),oB "list.__getitem__" [VR (n+0),VI ((tr+0).fmod 3) (t+8)] (t+9) (n+1) (VS s0 us0) (rd:=[(n+0,{cls:=Value.type SL.s9222952809800978799x4,data:=Data.seq {toList:=[VS {cps:={toList:=[10]}} (t+3),VS {cps:={toList:=[13]}} (t+4),VS {cps:={toList:=[13,10]}} (t+5)]}})]),oB "int.__mod__" [VI (tr+0) (t+6),VI 3 (t+7)] (t+8) (n+1) (VI ((tr+0).fmod 3) (t+8)) (di:=1),oB "int.__add__" [VI tr ttr,VI 0 (t0+8)] (t+6) (n+1) (VI (tr+0) (t+6)) (di:=1),oB "str.__add__" [VS {cps:={toList:=[]}} (t0+3),VS r0 (t+1)] (t+3) (n+0) (VS w0 (t+1)),oB "str.__add__" [VS d0 v0,VS c0 (t0+14)] (t+1) (n+0) (VS r0 (t+1)) (di:=1)] [2,3,4,5] ([(n0+2,rgO 2 1),(n0+0,frameO [XR P (t0+0) (.ref x),YS P (t0+1) (.int 0 tp),Yk P (t0+2) (.int tr ttr),Yj P (t0+4) (.str T0 (t+9)),Yi P (t0+9) (.int 1 (t+11)),XW P (t0+15) (.str c1 (t+17)),YL P (t+0) (.str d0 v0),kn21 P (t+2) (.str r0 (t+1))] 8),(x,Xo d),(d,Xx P hk l)])
def Kj:List Nat:=oC [Be,dO 10 0x18008182800000005]
def NT:Out:=let xr:=(NU b1 b2 P n0 t0 n1 t1 x d l hk tp tr ttr cs uc c0 d0 v0 r0 w0 s0 T0 us0 uc1 c1).res;ev (bS b1 b2 P n t) 151 Kj [{v:=VS r1 (t+1),di:=1},{v:=VS w1 (t+3),di:=1},{v:=VI (tr+1) (t+7),di:=1},{v:=VI ((tr+1).fmod 3) (t+9),di:=1},{v:=VS s1 us1,rd:=[0]},{v:=VS T1 (t+10),di:=1},{v:=VI (tr.fmod 2) (t+17),di:=1},{v:=VS cs uc2,rd:=[0]},{v:=VS c2 (t+18),di:=1}] xr.c (xr.k (.ok (.ret (.str d1 v1)))) xr.K xr.d [(n0+2,rgO 2 1),(n0+0,frameO [XR P (t0+0) (.ref x),YS P (t0+1) (.int 0 tp),Yk P (t0+2) (.int tr ttr),Yj P (t0+4) (.str T0 (t1+9)),Yi P (t0+9) (.int 1 (t1+11)),XW P (t0+15) (.str c1 (t1+17)),YL P (t1+0) (.str d0 v0),kn21 P (t1+2) (.str r0 (t1+1))] 8),(x,Xo d),(d,Xx P hk l)] 0 0 [] []
abbrev mail0_2_s:Prop:=SegE (NT b1 b2 P n0 t0 n1 t1 n t x d l hk tp tr ttr cs uc c0 d0 v0 r0 w0 s0 T0 us0 uc1 c1 d1 v1 r1 w1 s1 T1 us1 uc2 c2) .stop (.call (.ref 144) ⟨[.ref x,.str c2 (t+18)],[]⟩) 2 20 [oB "str.__getitem__" [VS cs uc2,VI 2 (t+12)] (t+18) (n+2) (VS c2 (t+18)) (di:=1),oB "list.__getitem__" [VR (n+1),VI (tr.fmod 2) (t+17)] (t+18) (n+2) (VS cs uc2) (rd:=[(n+1,{cls:=Value.type SL.s9222952809800978799x4,data:=Data.seq {toList:=[VS {cps:={toList:=[97,98,99]}} (t+14),VS {cps:={toList:=[65,66,67]}} (t+15)]}})]),oB "int.__mod__" [VI tr ttr,VI 2 (t+16)] (t+17) (n+2) (VI (tr.fmod 2) (t+17)) (di:=1),oB "str.__add__" [VS w1 (t+3),VS s1 us1] (t+10) (n+1) (VS T1 (t+10)) (di:=1),oB "list.__getitem__" [VR (n+0),VI ((tr+1).fmod 3) (t+9)] (t+10) (n+1) (VS s1 us1) (rd:=[(n+0,{cls:=Value.type SL.s9222952809800978799x4,data:=Data.seq {toList:=[VS {cps:={toList:=[10]}} (t+4),VS {cps:={toList:=[13]}} (t+5),VS {cps:={toList:=[13,10]}} (t+6)]}})]),oB "int.__mod__" [VI (tr+1) (t+7),VI 3 (t+8)] (t+9) (n+1) (VI ((tr+1).fmod 3) (t+9)) (di:=1),oB "int.__add__" [VI tr ttr,VI 1 (t1+11)] (t+7) (n+1) (VI (tr+1) (t+7)) (di:=1),oB "str.__add__" [VS T0 (t1+9),VS r1 (t+1)] (t+3) (n+0) (VS w1 (t+3)) (di:=1),oB "str.__add__" [VS c1 (t1+17),VS d1 v1] (t+1) (n+0) (VS r1 (t+1)) (di:=1)] [2,3,4,5] ([(n0+2,rgO 3 0),(n0+0,frameO [XR P (t0+0) (.ref x),YS P (t0+1) (.int 0 tp),Yk P (t0+2) (.int tr ttr),Yj P (t0+4) (.str T1 (t+10)),Yi P (t0+9) (.int 2 (t+12)),XW P (t0+15) (.str c2 (t+18)),YL P (t1+0) (.str d1 v1),kn21 P (t1+2) (.str r1 (t+1))] 8),(x,Xo d),(d,Xx P hk l)])
def Ki:List Nat:=dO 40 0x60028000041020400100040018304001010204102060c102040810204080000408102
def NS:Out:=let xr:=(NT b1 b2 P n0 t0 n1 t1 n2 t2 x d l hk tp tr ttr cs uc c0 d0 v0 r0 w0 s0 T0 us0 uc1 c1 d1 v1 r1 w1 s1 T1 us1 uc2 c2).res;ev (bS b1 b2 P n t) 101 Ki [{v:=VS r2 (t+1),di:=1},{v:=VS w2 (t+3),di:=1},{v:=VI (tr+2) (t+7),di:=1},{v:=VI ((tr+2).fmod 3) (t+9),di:=1},{v:=VS s2 us2,rd:=[0]},{v:=VS T2 (t+10),di:=1}] xr.c (xr.k (.ok (.ret (.str d2 v2)))) xr.K xr.d [(n0+2,rgO 3 0),(n0+0,frameO [XR P (t0+0) (.ref x),YS P (t0+1) (.int 0 tp),Yk P (t0+2) (.int tr ttr),Yj P (t0+4) (.str T1 (t2+10)),Yi P (t0+9) (.int 2 (t2+12)),XW P (t0+15) (.str c2 (t2+18)),YL P (t1+0) (.str d1 v1),kn21 P (t1+2) (.str r1 (t2+1))] 8)] 0 0 [] []
abbrev mail0_3_s:Prop:=SegE (NS b1 b2 P n0 t0 n1 t1 n2 t2 n t x d l hk tp tr ttr cs uc c0 d0 v0 r0 w0 s0 T0 us0 uc1 c1 d1 v1 r1 w1 s1 T1 us1 uc2 c2 d2 v2 r2 w2 s2 T2 us2) .stop (.call (.ref 64) ⟨[.str T2 (t+10)],[]⟩) 3 12 [oB "str.__add__" [VS w2 (t+3),VS s2 us2] (t+10) (n+1) (VS T2 (t+10)) (di:=1),oB "list.__getitem__" [VR (n+0),VI ((tr+2).fmod 3) (t+9)] (t+10) (n+1) (VS s2 us2) (rd:=[(n+0,{cls:=Value.type SL.s9222952809800978799x4,data:=Data.seq {toList:=[VS {cps:={toList:=[10]}} (t+4),VS {cps:={toList:=[13]}} (t+5),VS {cps:={toList:=[13,10]}} (t+6)]}})]),oB "int.__mod__" [VI (tr+2) (t+7),VI 3 (t+8)] (t+9) (n+1) (VI ((tr+2).fmod 3) (t+9)) (di:=1),oB "int.__add__" [VI tr ttr,VI 2 (t2+12)] (t+7) (n+1) (VI (tr+2) (t+7)) (di:=1),oB "str.__add__" [VS T1 (t2+10),VS r2 (t+1)] (t+3) (n+0) (VS w2 (t+3)) (di:=1),oB "str.__add__" [VS c2 (t2+18),VS d2 v2] (t+1) (n+0) (VS r2 (t+1)) (di:=1)] [3,4] ([(n0+2,rgO 3 0),(n0+0,frameO [XR P (t0+0) (.ref x),YS P (t0+1) (.int 0 tp),Yk P (t0+2) (.int tr ttr),Yj P (t0+4) (.str T2 (t+10)),Yi P (t0+9) (.int 2 (t2+12)),XW P (t0+15) (.str c2 (t2+18)),YL P (t1+0) (.str d2 v2),kn21 P (t1+2) (.str r2 (t+1))] 8)])
def Kh:List Nat:=[]
abbrev Dp n0(P:Params) t0 x tp tr ttr T2 t3 t2 c2 t1 d2 v2 r2:=((n0+0,frameO [XR P (t0+0) (.ref x),YS P (t0+1) (.int 0 tp),Yk P (t0+2) (.int tr ttr),Yj P (t0+4) (.str T2 (t3+10)),Yi P (t0+9) (.int 2 (t2+12)),XW P (t0+15) (.str c2 (t2+18)),YL P (t1+0) (.str d2 v2),kn21 P (t1+2) (.str r2 (t3+1))] 8):Xp)
def H6:Out:=let xr:=(NS b1 b2 P n0 t0 n1 t1 n2 t2 n3 t3 x d l hk tp tr ttr cs uc c0 d0 v0 r0 w0 s0 T0 us0 uc1 c1 d1 v1 r1 w1 s1 T1 us1 uc2 c2 d2 v2 r2 w2 s2 T2 us2).res;ev (bS b1 b2 P n t) 7 Kh [] xr.c (xr.k (.ok (.ret (.str mm um)))) xr.K xr.d [(Dp n0 P t0 x tp tr ttr T2 t3 t2 c2 t1 d2 v2 r2)] 0 0 [] []
abbrev mail0_4_ok:Prop:=SegE (H6 b1 b2 P n0 t0 n1 t1 n2 t2 n3 t3 n t x d l hk tp tr ttr cs uc c0 d0 v0 r0 w0 s0 T0 us0 uc1 c1 d1 v1 r1 w1 s1 T1 us1 uc2 c2 d2 v2 r2 w2 s2 T2 us2 mm um) (.flow (.ret (.str mm um))) (.call .none {}) 0 0 [] [0] ([(Dp n0 P t0 x tp tr ttr T2 t3 t2 c2 t1 d2 v2 r2)])
end
abbrev tmail01(a b m n:Nat)(c d e:Addr)(f g:Nat)(h:Int)(i:Nat)(j:Str)(k:Nat)(l o:Str)(p:Nat)(q r s t:Str)(u v:Nat)(w:Str):Prop:=∀x y z A B C D E F G H,mail0_2_s b1 b2 P a b m n x y c d e f g h i j k l o p q r s t u v w z A B C D E F G H/\∀I J K L M N O Q R,mail0_3_s b1 b2 P a b m n x y I J c d e f g h i j k l o p q r s t u v w z A B C D E F G H K L M N O Q R/\∀S T U V,mail0_4_ok b1 b2 P a b m n x y I J S T c d e f g h i j k l o p q r s t u v w z A B C D E F G H K L M N O Q R U V
abbrev Nz(a b:Nat)(c d e:Addr)(f g:Nat)(h:Int)(i:Nat)(j:Str)(k:Nat)(l:Str):Prop:=∀m n o p q r s t u v w,mail0_1_s b1 b2 P a b m n c d e f g h i j k l o p q r s t u v w/\tmail01 b1 b2 P a b m n c d e f g h i j k l o p q r s t u v w
theorem N1(a b:Nat)(c d e:Addr)(f g:Nat)(h:Int)(i:Nat)(j:Str)(k:Nat)(l:Str):Mx b1 b2 P a b c d e f g h i j k l/\Nz b1 b2 P a b c d e f g h i j k l:=
 ⟨gO,fun _ _ _ _ _ _ _ _ _ _ _=>⟨gO,fun _ _ _ _ _ _ _ _ _ _ _=>⟨gO,fun _ _ _ _ _ _ _ _ _=>⟨gO,fun _ _ _ _=>gO⟩⟩⟩⟩
section
variable(a b m n:Nat)(c d e:Addr)(f g:Nat)(h:Int)(i:Nat)(j:Str)(k:Nat)(l o:Str)(p:Nat)(q r s t:Str)(u v:Nat)(w:Str)
theorem VA:Nz b1 b2 P a b c d e f g h i j k l:=(N1 ..).2
theorem Fx:tmail01 b1 b2 P a b m n c d e f g h i j k l o p q r s t u v w:=(VA _ ..).2
end
section
variable(n0 t0 n1 t1 n2 t2 n t:Nat)(x d l:Addr)(hk tp:Nat)(tr:Int)(ttr:Nat)(cs:Str)(uc:Nat)(c0 d0:Str)(v0:Nat)(r0 w0 s0 T0:Str)(us0 uc1:Nat)(c1 d1:Str)(v1:Nat)(r1 w1 s1 T1:Str)(us1 uc2:Nat)(c2 d2:Str)(v2:Nat)(r2 w2 s2 T2:Str)(us2:Nat)
theorem Mw:mail0_1_s b1 b2 P n0 t0 n t x d l hk tp tr ttr cs uc c0 d0 v0 r0 w0 s0 T0 us0 uc1 c1:=(VA _ ..).1
theorem Mv:mail0_2_s b1 b2 P n0 t0 n1 t1 n t x d l hk tp tr ttr cs uc c0 d0 v0 r0 w0 s0 T0 us0 uc1 c1 d1 v1 r1 w1 s1 T1 us1 uc2 c2:=(Fx _ ..).1
theorem Mu:mail0_3_s b1 b2 P n0 t0 n1 t1 n2 t2 n t x d l hk tp tr ttr cs uc c0 d0 v0 r0 w0 s0 T0 us0 uc1 c1 d1 v1 r1 w1 s1 T1 us1 uc2 c2 d2 v2 r2 w2 s2 T2 us2:=((Fx _ ..).2 ..).1
end
end

section
variable(b1 b2:Bool)(P:Params)
def Kg:List Nat:=oC [D4,dO 17 0x3001030500000000a000000a00000]
section
variable(n0 t0 n1 t1 n2 t2 n3 t3 n t:Nat)(x d l:Addr)(hk tp:Nat)(tr:Int)(ttr:Nat)(cs:Str)(uc:Nat)(c0 d0:Str)(v0:Nat)(r0 w0 s0 T0:Str)(us0 uc1:Nat)(c1 d1:Str)(v1:Nat)(r1 w1 s1 T1:Str)(us1 uc2:Nat)(c2 d2:Str)(v2:Nat)(r2 w2 s2 T2:Str)(us2:Nat)(mm:Str)(um:Nat)
def NR:Out:=
 let xc:Code:=.call (.ref 227) ⟨[.ref x,.int 1 tp,.int tr ttr],[]⟩;ev (bS b1 b2 P n t) 144 Kg [{v:=VI (tr.fmod 2) (t+13),di:=1},{v:=VS cs uc,rd:=[0]},{v:=VS c0 (t+14),di:=1}] xc (XQ xc) [] 0 [(x,Xo d),(d,Xx P hk l)] 0 0 [] []
abbrev Mt:Prop:=SegE (NR b1 b2 P n t x d l hk tp tr ttr cs uc c0) .stop (.call (.ref 144) ⟨[.ref x,.str c0 (t+14)],[]⟩) 4 16 [oB "str.__getitem__" [VS cs uc,VI 0 (t+8)] (t+14) (n+4) (VS c0 (t+14)) (di:=1),oB "list.__getitem__" [VR (n+3),VI (tr.fmod 2) (t+13)] (t+14) (n+4) (VS cs uc) (rd:=[(n+3,{cls:=Value.type SL.s9222952809800978799x4,data:=Data.seq {toList:=[VS {cps:={toList:=[97,98,99]}} (t+10),VS {cps:={toList:=[65,66,67]}} (t+11)]}})]),oB "int.__mod__" [VI tr ttr,VI 2 (t+12)] (t+13) (n+4) (VI (tr.fmod 2) (t+13)) (di:=1)] [1,3,4,5] ([(n+2,rgO 1 2),(n+0,frameO [XR P (t+0) (.ref x),YS P (t+1) (.int 1 tp),Yk P (t+2) (.int tr ttr),Yj P (t+4) (.str ⟨⟨[]⟩⟩ (t+3)),Yi P (t+9) (.int 0 (t+8)),XW P (t+15) (.str c0 (t+14))] 6),(x,Xo d),(d,Xx P hk l)])
def Kf:List Nat:=oC [Be,dO 10 0x18008182800000005]
def NQ:Out:=let xr:=(NR b1 b2 P n0 t0 x d l hk tp tr ttr cs uc c0).res;ev (bS b1 b2 P n t) 151 Kf [{v:=VS r0 (t+1),di:=1},{v:=VS w0 (t+1)},{v:=VI (tr+0) (t+6),di:=1},{v:=VI ((tr+0).fmod 3) (t+8),di:=1},{v:=VS s0 us0,rd:=[0]},{v:=VS T0 (t+9),di:=1},{v:=VI (tr.fmod 2) (t+16),di:=1},{v:=VS cs uc1,rd:=[0]},{v:=VS c1 (t+17),di:=1}] xr.c (xr.k (.ok (.ret (.str d0 v0)))) xr.K xr.d [(n0+2,rgO 1 2),(n0+0,frameO [XR P (t0+0) (.ref x),YS P (t0+1) (.int 1 tp),Yk P (t0+2) (.int tr ttr),Yj P (t0+4) (.str ⟨⟨[]⟩⟩ (t0+3)),Yi P (t0+9) (.int 0 (t0+8)),XW P (t0+15) (.str c0 (t0+14))] 6),(x,Xo d),(d,Xx P hk l)] 0 0 [] []
abbrev mail1_1_s:Prop:=SegE (NQ b1 b2 P n0 t0 n t x d l hk tp tr ttr cs uc c0 d0 v0 r0 w0 s0 T0 us0 uc1 c1) .stop (.call (.ref 144) ⟨[.ref x,.str c1 (t+17)],[]⟩) 2 19 [oB "str.__getitem__" [VS cs uc1,VI 1 (t+11)] (t+17) (n+2) (VS c1 (t+17)) (di:=1),oB "list.__getitem__" [VR (n+1),VI (tr.fmod 2) (t+16)] (t+17) (n+2) (VS cs uc1) (rd:=[(n+1,{cls:=Value.type SL.s9222952809800978799x4,data:=Data.seq {toList:=[VS {cps:={toList:=[97,98,99]}} (t+13),VS {cps:={toList:=[65,66,67]}} (t+14)]}})]),oB "int.__mod__" [VI tr ttr,VI 2 (t+15)] (t+16) (n+2) (VI (tr.fmod 2) (t+16)) (di:=1),oB "str.__add__" [VS w0 (t+1),VS s0 us0] (t+9) (n+1) (VS T0 (t+9)) (di:=1),oB "list.__getitem__" [VR (n+0),VI ((tr+0).fmod 3) (t+8)] (t+9) (n+1) (VS s0 us0) (rd:=[(n+0,{cls:=Value.type SL.s9222952809800978799x4,data:=Data.seq {toList:=[VS {cps:={toList:=[10]}} (t+3),VS {cps:={toList:=[13]}} (t+4),VS {cps:={toList:=[13,10]}} (t+5)]}})]),oB "int.__mod__" [VI (tr+0) (t+6),VI 3 (t+7)] (t+8) (n+1) (VI ((tr+0).fmod 3) (t+8)) (di:=1),oB "int.__add__" [VI tr ttr,VI 0 (t0+8)] (t+6) (n+1) (VI (tr+0) (t+6)) (di:=1),oB "str.__add__" [VS {cps:={toList:=[]}} (t0+3),VS r0 (t+1)] (t+3) (n+0) (VS w0 (t+1)),oB "str.__add__" [VS c0 (t0+14),VS d0 v0] (t+1) (n+0) (VS r0 (t+1)) (di:=1)] [2,3,4,5] ([(n0+2,rgO 2 1),(n0+0,frameO [XR P (t0+0) (.ref x),YS P (t0+1) (.int 1 tp),Yk P (t0+2) (.int tr ttr),Yj P (t0+4) (.str T0 (t+9)),Yi P (t0+9) (.int 1 (t+11)),XW P (t0+15) (.str c1 (t+17)),YL P (t+0) (.str d0 v0),kn21 P (t+2) (.str r0 (t+1))] 8),(x,Xo d),(d,Xx P hk l)])
def Ke:List Nat:=oC [Be,dO 10 0x18008182800000005]
def NP:Out:=let xr:=(NQ b1 b2 P n0 t0 n1 t1 x d l hk tp tr ttr cs uc c0 d0 v0 r0 w0 s0 T0 us0 uc1 c1).res;ev (bS b1 b2 P n t) 151 Ke [{v:=VS r1 (t+1),di:=1},{v:=VS w1 (t+3),di:=1},{v:=VI (tr+1) (t+7),di:=1},{v:=VI ((tr+1).fmod 3) (t+9),di:=1},{v:=VS s1 us1,rd:=[0]},{v:=VS T1 (t+10),di:=1},{v:=VI (tr.fmod 2) (t+17),di:=1},{v:=VS cs uc2,rd:=[0]},{v:=VS c2 (t+18),di:=1}] xr.c (xr.k (.ok (.ret (.str d1 v1)))) xr.K xr.d [(n0+2,rgO 2 1),(n0+0,frameO [XR P (t0+0) (.ref x),YS P (t0+1) (.int 1 tp),Yk P (t0+2) (.int tr ttr),Yj P (t0+4) (.str T0 (t1+9)),Yi P (t0+9) (.int 1 (t1+11)),XW P (t0+15) (.str c1 (t1+17)),YL P (t1+0) (.str d0 v0),kn21 P (t1+2) (.str r0 (t1+1))] 8),(x,Xo d),(d,Xx P hk l)] 0 0 [] []
abbrev mail1_2_s:Prop:=SegE (NP b1 b2 P n0 t0 n1 t1 n t x d l hk tp tr ttr cs uc c0 d0 v0 r0 w0 s0 T0 us0 uc1 c1 d1 v1 r1 w1 s1 T1 us1 uc2 c2) .stop (.call (.ref 144) ⟨[.ref x,.str c2 (t+18)],[]⟩) 2 20 [oB "str.__getitem__" [VS cs uc2,VI 2 (t+12)] (t+18) (n+2) (VS c2 (t+18)) (di:=1),oB "list.__getitem__" [VR (n+1),VI (tr.fmod 2) (t+17)] (t+18) (n+2) (VS cs uc2) (rd:=[(n+1,{cls:=Value.type SL.s9222952809800978799x4,data:=Data.seq {toList:=[VS {cps:={toList:=[97,98,99]}} (t+14),VS {cps:={toList:=[65,66,67]}} (t+15)]}})]),oB "int.__mod__" [VI tr ttr,VI 2 (t+16)] (t+17) (n+2) (VI (tr.fmod 2) (t+17)) (di:=1),oB "str.__add__" [VS w1 (t+3),VS s1 us1] (t+10) (n+1) (VS T1 (t+10)) (di:=1),oB "list.__getitem__" [VR (n+0),VI ((tr+1).fmod 3) (t+9)] (t+10) (n+1) (VS s1 us1) (rd:=[(n+0,{cls:=Value.type SL.s9222952809800978799x4,data:=Data.seq {toList:=[VS {cps:={toList:=[10]}} (t+4),VS {cps:={toList:=[13]}} (t+5),VS {cps:={toList:=[13,10]}} (t+6)]}})]),oB "int.__mod__" [VI (tr+1) (t+7),VI 3 (t+8)] (t+9) (n+1) (VI ((tr+1).fmod 3) (t+9)) (di:=1),oB "int.__add__" [VI tr ttr,VI 1 (t1+11)] (t+7) (n+1) (VI (tr+1) (t+7)) (di:=1),oB "str.__add__" [VS T0 (t1+9),VS r1 (t+1)] (t+3) (n+0) (VS w1 (t+3)) (di:=1),oB "str.__add__" [VS d1 v1,VS c1 (t1+17)] (t+1) (n+0) (VS r1 (t+1)) (di:=1)] [2,3,4,5] ([(n0+2,rgO 3 0),(n0+0,frameO [XR P (t0+0) (.ref x),YS P (t0+1) (.int 1 tp),Yk P (t0+2) (.int tr ttr),Yj P (t0+4) (.str T1 (t+10)),Yi P (t0+9) (.int 2 (t+12)),XW P (t0+15) (.str c2 (t+18)),YL P (t1+0) (.str d1 v1),kn21 P (t1+2) (.str r1 (t+1))] 8),(x,Xo d),(d,Xx P hk l)])
def Kd:List Nat:=dO 40 0x60028000041020400100040018304001010204102060c102040810204080000408102
def NO:Out:=let xr:=(NP b1 b2 P n0 t0 n1 t1 n2 t2 x d l hk tp tr ttr cs uc c0 d0 v0 r0 w0 s0 T0 us0 uc1 c1 d1 v1 r1 w1 s1 T1 us1 uc2 c2).res;ev (bS b1 b2 P n t) 101 Kd [{v:=VS r2 (t+1),di:=1},{v:=VS w2 (t+3),di:=1},{v:=VI (tr+2) (t+7),di:=1},{v:=VI ((tr+2).fmod 3) (t+9),di:=1},{v:=VS s2 us2,rd:=[0]},{v:=VS T2 (t+10),di:=1}] xr.c (xr.k (.ok (.ret (.str d2 v2)))) xr.K xr.d [(n0+2,rgO 3 0),(n0+0,frameO [XR P (t0+0) (.ref x),YS P (t0+1) (.int 1 tp),Yk P (t0+2) (.int tr ttr),Yj P (t0+4) (.str T1 (t2+10)),Yi P (t0+9) (.int 2 (t2+12)),XW P (t0+15) (.str c2 (t2+18)),YL P (t1+0) (.str d1 v1),kn21 P (t1+2) (.str r1 (t2+1))] 8)] 0 0 [] []
abbrev mail1_3_s:Prop:=SegE (NO b1 b2 P n0 t0 n1 t1 n2 t2 n t x d l hk tp tr ttr cs uc c0 d0 v0 r0 w0 s0 T0 us0 uc1 c1 d1 v1 r1 w1 s1 T1 us1 uc2 c2 d2 v2 r2 w2 s2 T2 us2) .stop (.call (.ref 64) ⟨[.str T2 (t+10)],[]⟩) 3 12 [oB "str.__add__" [VS w2 (t+3),VS s2 us2] (t+10) (n+1) (VS T2 (t+10)) (di:=1),oB "list.__getitem__" [VR (n+0),VI ((tr+2).fmod 3) (t+9)] (t+10) (n+1) (VS s2 us2) (rd:=[(n+0,{cls:=Value.type SL.s9222952809800978799x4,data:=Data.seq {toList:=[VS {cps:={toList:=[10]}} (t+4),VS {cps:={toList:=[13]}} (t+5),VS {cps:={toList:=[13,10]}} (t+6)]}})]),oB "int.__mod__" [VI (tr+2) (t+7),VI 3 (t+8)] (t+9) (n+1) (VI ((tr+2).fmod 3) (t+9)) (di:=1),oB "int.__add__" [VI tr ttr,VI 2 (t2+12)] (t+7) (n+1) (VI (tr+2) (t+7)) (di:=1),oB "str.__add__" [VS T1 (t2+10),VS r2 (t+1)] (t+3) (n+0) (VS w2 (t+3)) (di:=1),oB "str.__add__" [VS c2 (t2+18),VS d2 v2] (t+1) (n+0) (VS r2 (t+1)) (di:=1)] [3,4] ([(n0+2,rgO 3 0),(n0+0,frameO [XR P (t0+0) (.ref x),YS P (t0+1) (.int 1 tp),Yk P (t0+2) (.int tr ttr),Yj P (t0+4) (.str T2 (t+10)),Yi P (t0+9) (.int 2 (t2+12)),XW P (t0+15) (.str c2 (t2+18)),YL P (t1+0) (.str d2 v2),kn21 P (t1+2) (.str r2 (t+1))] 8)])
def Kc:List Nat:=[]
abbrev Do n0(P:Params) t0 x tp tr ttr T2 t3 t2 c2 t1 d2 v2 r2:=((n0+0,frameO [XR P (t0+0) (.ref x),YS P (t0+1) (.int 1 tp),Yk P (t0+2) (.int tr ttr),Yj P (t0+4) (.str T2 (t3+10)),Yi P (t0+9) (.int 2 (t2+12)),XW P (t0+15) (.str c2 (t2+18)),YL P (t1+0) (.str d2 v2),kn21 P (t1+2) (.str r2 (t3+1))] 8):Xp)
def H5:Out:=let xr:=(NO b1 b2 P n0 t0 n1 t1 n2 t2 n3 t3 x d l hk tp tr ttr cs uc c0 d0 v0 r0 w0 s0 T0 us0 uc1 c1 d1 v1 r1 w1 s1 T1 us1 uc2 c2 d2 v2 r2 w2 s2 T2 us2).res;ev (bS b1 b2 P n t) 7 Kc [] xr.c (xr.k (.ok (.ret (.str mm um)))) xr.K xr.d [(Do n0 P t0 x tp tr ttr T2 t3 t2 c2 t1 d2 v2 r2)] 0 0 [] []
abbrev mail1_4_ok:Prop:=SegE (H5 b1 b2 P n0 t0 n1 t1 n2 t2 n3 t3 n t x d l hk tp tr ttr cs uc c0 d0 v0 r0 w0 s0 T0 us0 uc1 c1 d1 v1 r1 w1 s1 T1 us1 uc2 c2 d2 v2 r2 w2 s2 T2 us2 mm um) (.flow (.ret (.str mm um))) (.call .none {}) 0 0 [] [0] ([(Do n0 P t0 x tp tr ttr T2 t3 t2 c2 t1 d2 v2 r2)])
end
abbrev tmail11(a b m n:Nat)(c d e:Addr)(f g:Nat)(h:Int)(i:Nat)(j:Str)(k:Nat)(l o:Str)(p:Nat)(q r s t:Str)(u v:Nat)(w:Str):Prop:=∀x y z A B C D E F G H,mail1_2_s b1 b2 P a b m n x y c d e f g h i j k l o p q r s t u v w z A B C D E F G H/\∀I J K L M N O Q R,mail1_3_s b1 b2 P a b m n x y I J c d e f g h i j k l o p q r s t u v w z A B C D E F G H K L M N O Q R/\∀S T U V,mail1_4_ok b1 b2 P a b m n x y I J S T c d e f g h i j k l o p q r s t u v w z A B C D E F G H K L M N O Q R U V
abbrev Ny(a b:Nat)(c d e:Addr)(f g:Nat)(h:Int)(i:Nat)(j:Str)(k:Nat)(l:Str):Prop:=∀m n o p q r s t u v w,mail1_1_s b1 b2 P a b m n c d e f g h i j k l o p q r s t u v w/\tmail11 b1 b2 P a b m n c d e f g h i j k l o p q r s t u v w
theorem N0(a b:Nat)(c d e:Addr)(f g:Nat)(h:Int)(i:Nat)(j:Str)(k:Nat)(l:Str):Mt b1 b2 P a b c d e f g h i j k l/\Ny b1 b2 P a b c d e f g h i j k l:=
 ⟨gO,fun _ _ _ _ _ _ _ _ _ _ _=>⟨gO,fun _ _ _ _ _ _ _ _ _ _ _=>⟨gO,fun _ _ _ _ _ _ _ _ _=>⟨gO,fun _ _ _ _=>gO⟩⟩⟩⟩
section
variable(a b m n:Nat)(c d e:Addr)(f g:Nat)(h:Int)(i:Nat)(j:Str)(k:Nat)(l o:Str)(p:Nat)(q r s t:Str)(u v:Nat)(w:Str)
theorem Vz:Ny b1 b2 P a b c d e f g h i j k l:=(N0 ..).2
theorem Fw:tmail11 b1 b2 P a b m n c d e f g h i j k l o p q r s t u v w:=(Vz _ ..).2
end
section
variable(n0 t0 n1 t1 n2 t2 n t:Nat)(x d l:Addr)(hk tp:Nat)(tr:Int)(ttr:Nat)(cs:Str)(uc:Nat)(c0 d0:Str)(v0:Nat)(r0 w0 s0 T0:Str)(us0 uc1:Nat)(c1 d1:Str)(v1:Nat)(r1 w1 s1 T1:Str)(us1 uc2:Nat)(c2 d2:Str)(v2:Nat)(r2 w2 s2 T2:Str)(us2:Nat)
theorem Ms:mail1_1_s b1 b2 P n0 t0 n t x d l hk tp tr ttr cs uc c0 d0 v0 r0 w0 s0 T0 us0 uc1 c1:=(Vz _ ..).1
theorem Mr:mail1_2_s b1 b2 P n0 t0 n1 t1 n t x d l hk tp tr ttr cs uc c0 d0 v0 r0 w0 s0 T0 us0 uc1 c1 d1 v1 r1 w1 s1 T1 us1 uc2 c2:=(Fw _ ..).1
theorem Mq:mail1_3_s b1 b2 P n0 t0 n1 t1 n2 t2 n t x d l hk tp tr ttr cs uc c0 d0 v0 r0 w0 s0 T0 us0 uc1 c1 d1 v1 r1 w1 s1 T1 us1 uc2 c2 d2 v2 r2 w2 s2 T2 us2:=((Fw _ ..).2 ..).1
end
end

section
variable(b1 b2:Bool)(P:Params)
def Kb:List Nat:=oC [D4,dO 17 0x3001030500000000a000000a00000]
section
variable(n0 t0 n1 t1 n2 t2 n3 t3 n t:Nat)(x d l:Addr)(hk tp:Nat)(tr:Int)(ttr:Nat)(cs:Str)(uc:Nat)(c0 d0:Str)(v0:Nat)(r0 w0 s0 T0:Str)(us0 uc1:Nat)(c1 d1:Str)(v1:Nat)(r1 w1 s1 T1:Str)(us1 uc2:Nat)(c2 d2:Str)(v2:Nat)(r2 w2 s2 T2:Str)(us2:Nat)(mm:Str)(um:Nat)
def NN:Out:=
 let xc:Code:=.call (.ref 227) ⟨[.ref x,.int 2 tp,.int tr ttr],[]⟩;ev (bS b1 b2 P n t) 144 Kb [{v:=VI (tr.fmod 2) (t+13),di:=1},{v:=VS cs uc,rd:=[0]},{v:=VS c0 (t+14),di:=1}] xc (XQ xc) [] 0 [(x,Xo d),(d,Xx P hk l)] 0 0 [] []
abbrev Mp:Prop:=SegE (NN b1 b2 P n t x d l hk tp tr ttr cs uc c0) .stop (.call (.ref 144) ⟨[.ref x,.str c0 (t+14)],[]⟩) 4 16 [oB "str.__getitem__" [VS cs uc,VI 0 (t+8)] (t+14) (n+4) (VS c0 (t+14)) (di:=1),oB "list.__getitem__" [VR (n+3),VI (tr.fmod 2) (t+13)] (t+14) (n+4) (VS cs uc) (rd:=[(n+3,{cls:=Value.type SL.s9222952809800978799x4,data:=Data.seq {toList:=[VS {cps:={toList:=[97,98,99]}} (t+10),VS {cps:={toList:=[65,66,67]}} (t+11)]}})]),oB "int.__mod__" [VI tr ttr,VI 2 (t+12)] (t+13) (n+4) (VI (tr.fmod 2) (t+13)) (di:=1)] [1,3,4,5] ([(n+2,rgO 1 2),(n+0,frameO [XR P (t+0) (.ref x),YS P (t+1) (.int 2 tp),Yk P (t+2) (.int tr ttr),Yj P (t+4) (.str ⟨⟨[]⟩⟩ (t+3)),Yi P (t+9) (.int 0 (t+8)),XW P (t+15) (.str c0 (t+14))] 6),(x,Xo d),(d,Xx P hk l)])
def Ka:List Nat:=oC [Be,dO 10 0x18008182800000005]
def NM:Out:=let xr:=(NN b1 b2 P n0 t0 x d l hk tp tr ttr cs uc c0).res;ev (bS b1 b2 P n t) 151 Ka [{v:=VS r0 (t+1),di:=1},{v:=VS w0 (t+1)},{v:=VI (tr+0) (t+6),di:=1},{v:=VI ((tr+0).fmod 3) (t+8),di:=1},{v:=VS s0 us0,rd:=[0]},{v:=VS T0 (t+9),di:=1},{v:=VI (tr.fmod 2) (t+16),di:=1},{v:=VS cs uc1,rd:=[0]},{v:=VS c1 (t+17),di:=1}] xr.c (xr.k (.ok (.ret (.str d0 v0)))) xr.K xr.d [(n0+2,rgO 1 2),(n0+0,frameO [XR P (t0+0) (.ref x),YS P (t0+1) (.int 2 tp),Yk P (t0+2) (.int tr ttr),Yj P (t0+4) (.str ⟨⟨[]⟩⟩ (t0+3)),Yi P (t0+9) (.int 0 (t0+8)),XW P (t0+15) (.str c0 (t0+14))] 6),(x,Xo d),(d,Xx P hk l)] 0 0 [] []
abbrev mail2_1_s:Prop:=SegE (NM b1 b2 P n0 t0 n t x d l hk tp tr ttr cs uc c0 d0 v0 r0 w0 s0 T0 us0 uc1 c1) .stop (.call (.ref 144) ⟨[.ref x,.str c1 (t+17)],[]⟩) 2 19 [oB "str.__getitem__" [VS cs uc1,VI 1 (t+11)] (t+17) (n+2) (VS c1 (t+17)) (di:=1),oB "list.__getitem__" [VR (n+1),VI (tr.fmod 2) (t+16)] (t+17) (n+2) (VS cs uc1) (rd:=[(n+1,{cls:=Value.type SL.s9222952809800978799x4,data:=Data.seq {toList:=[VS {cps:={toList:=[97,98,99]}} (t+13),VS {cps:={toList:=[65,66,67]}} (t+14)]}})]),oB "int.__mod__" [VI tr ttr,VI 2 (t+15)] (t+16) (n+2) (VI (tr.fmod 2) (t+16)) (di:=1),oB "str.__add__" [VS w0 (t+1),VS s0 us0] (t+9) (n+1) (VS T0 (t+9)) (di:=1),oB "list.__getitem__" [VR (n+0),VI ((tr+0).fmod 3) (t+8)] (t+9) (n+1) (VS s0 us0) (rd:=[(n+0,{cls:=Value.type SL.s9222952809800978799x4,data:=Data.seq {toList:=[VS {cps:={toList:=[10]}} (t+3),VS {cps:={toList:=[13]}} (t+4),VS {cps:={toList:=[13,10]}} (t+5)]}})]),oB "int.__mod__" [VI (tr+0) (t+6),VI 3 (t+7)] (t+8) (n+1) (VI ((tr+0).fmod 3) (t+8)) (di:=1),oB "int.__add__" [VI tr ttr,VI 0 (t0+8)] (t+6) (n+1) (VI (tr+0) (t+6)) (di:=1),oB "str.__add__" [VS {cps:={toList:=[]}} (t0+3),VS r0 (t+1)] (t+3) (n+0) (VS w0 (t+1)),oB "str.__add__" [VS c0 (t0+14),VS d0 v0] (t+1) (n+0) (VS r0 (t+1)) (di:=1)] [2,3,4,5] ([(n0+2,rgO 2 1),(n0+0,frameO [XR P (t0+0) (.ref x),YS P (t0+1) (.int 2 tp),Yk P (t0+2) (.int tr ttr),Yj P (t0+4) (.str T0 (t+9)),Yi P (t0+9) (.int 1 (t+11)),XW P (t0+15) (.str c1 (t+17)),YL P (t+0) (.str d0 v0),kn21 P (t+2) (.str r0 (t+1))] 8),(x,Xo d),(d,Xx P hk l)])
def B9:List Nat:=oC [Be,dO 10 0x18008182800000005]
def NL:Out:=let xr:=(NM b1 b2 P n0 t0 n1 t1 x d l hk tp tr ttr cs uc c0 d0 v0 r0 w0 s0 T0 us0 uc1 c1).res;ev (bS b1 b2 P n t) 151 B9 [{v:=VS r1 (t+1),di:=1},{v:=VS w1 (t+3),di:=1},{v:=VI (tr+1) (t+7),di:=1},{v:=VI ((tr+1).fmod 3) (t+9),di:=1},{v:=VS s1 us1,rd:=[0]},{v:=VS T1 (t+10),di:=1},{v:=VI (tr.fmod 2) (t+17),di:=1},{v:=VS cs uc2,rd:=[0]},{v:=VS c2 (t+18),di:=1}] xr.c (xr.k (.ok (.ret (.str d1 v1)))) xr.K xr.d [(n0+2,rgO 2 1),(n0+0,frameO [XR P (t0+0) (.ref x),YS P (t0+1) (.int 2 tp),Yk P (t0+2) (.int tr ttr),Yj P (t0+4) (.str T0 (t1+9)),Yi P (t0+9) (.int 1 (t1+11)),XW P (t0+15) (.str c1 (t1+17)),YL P (t1+0) (.str d0 v0),kn21 P (t1+2) (.str r0 (t1+1))] 8),(x,Xo d),(d,Xx P hk l)] 0 0 [] []
abbrev mail2_2_s:Prop:=SegE (NL b1 b2 P n0 t0 n1 t1 n t x d l hk tp tr ttr cs uc c0 d0 v0 r0 w0 s0 T0 us0 uc1 c1 d1 v1 r1 w1 s1 T1 us1 uc2 c2) .stop (.call (.ref 144) ⟨[.ref x,.str c2 (t+18)],[]⟩) 2 20 [oB "str.__getitem__" [VS cs uc2,VI 2 (t+12)] (t+18) (n+2) (VS c2 (t+18)) (di:=1),oB "list.__getitem__" [VR (n+1),VI (tr.fmod 2) (t+17)] (t+18) (n+2) (VS cs uc2) (rd:=[(n+1,{cls:=Value.type SL.s9222952809800978799x4,data:=Data.seq {toList:=[VS {cps:={toList:=[97,98,99]}} (t+14),VS {cps:={toList:=[65,66,67]}} (t+15)]}})]),oB "int.__mod__" [VI tr ttr,VI 2 (t+16)] (t+17) (n+2) (VI (tr.fmod 2) (t+17)) (di:=1),oB "str.__add__" [VS w1 (t+3),VS s1 us1] (t+10) (n+1) (VS T1 (t+10)) (di:=1),oB "list.__getitem__" [VR (n+0),VI ((tr+1).fmod 3) (t+9)] (t+10) (n+1) (VS s1 us1) (rd:=[(n+0,{cls:=Value.type SL.s9222952809800978799x4,data:=Data.seq {toList:=[VS {cps:={toList:=[10]}} (t+4),VS {cps:={toList:=[13]}} (t+5),VS {cps:={toList:=[13,10]}} (t+6)]}})]),oB "int.__mod__" [VI (tr+1) (t+7),VI 3 (t+8)] (t+9) (n+1) (VI ((tr+1).fmod 3) (t+9)) (di:=1),oB "int.__add__" [VI tr ttr,VI 1 (t1+11)] (t+7) (n+1) (VI (tr+1) (t+7)) (di:=1),oB "str.__add__" [VS T0 (t1+9),VS r1 (t+1)] (t+3) (n+0) (VS w1 (t+3)) (di:=1),oB "str.__add__" [VS c1 (t1+17),VS d1 v1] (t+1) (n+0) (VS r1 (t+1)) (di:=1)] [2,3,4,5] ([(n0+2,rgO 3 0),(n0+0,frameO [XR P (t0+0) (.ref x),YS P (t0+1) (.int 2 tp),Yk P (t0+2) (.int tr ttr),Yj P (t0+4) (.str T1 (t+10)),Yi P (t0+9) (.int 2 (t+12)),XW P (t0+15) (.str c2 (t+18)),YL P (t1+0) (.str d1 v1),kn21 P (t1+2) (.str r1 (t+1))] 8),(x,Xo d),(d,Xx P hk l)])
def B8:List Nat:=dO 40 0x60028000041020400100040018304001010204102060c102040810204080000408102
def NK:Out:=let xr:=(NL b1 b2 P n0 t0 n1 t1 n2 t2 x d l hk tp tr ttr cs uc c0 d0 v0 r0 w0 s0 T0 us0 uc1 c1 d1 v1 r1 w1 s1 T1 us1 uc2 c2).res;ev (bS b1 b2 P n t) 101 B8 [{v:=VS r2 (t+1),di:=1},{v:=VS w2 (t+3),di:=1},{v:=VI (tr+2) (t+7),di:=1},{v:=VI ((tr+2).fmod 3) (t+9),di:=1},{v:=VS s2 us2,rd:=[0]},{v:=VS T2 (t+10),di:=1}] xr.c (xr.k (.ok (.ret (.str d2 v2)))) xr.K xr.d [(n0+2,rgO 3 0),(n0+0,frameO [XR P (t0+0) (.ref x),YS P (t0+1) (.int 2 tp),Yk P (t0+2) (.int tr ttr),Yj P (t0+4) (.str T1 (t2+10)),Yi P (t0+9) (.int 2 (t2+12)),XW P (t0+15) (.str c2 (t2+18)),YL P (t1+0) (.str d1 v1),kn21 P (t1+2) (.str r1 (t2+1))] 8)] 0 0 [] []
abbrev mail2_3_s:Prop:=SegE (NK b1 b2 P n0 t0 n1 t1 n2 t2 n t x d l hk tp tr ttr cs uc c0 d0 v0 r0 w0 s0 T0 us0 uc1 c1 d1 v1 r1 w1 s1 T1 us1 uc2 c2 d2 v2 r2 w2 s2 T2 us2) .stop (.call (.ref 64) ⟨[.str T2 (t+10)],[]⟩) 3 12 [oB "str.__add__" [VS w2 (t+3),VS s2 us2] (t+10) (n+1) (VS T2 (t+10)) (di:=1),oB "list.__getitem__" [VR (n+0),VI ((tr+2).fmod 3) (t+9)] (t+10) (n+1) (VS s2 us2) (rd:=[(n+0,{cls:=Value.type SL.s9222952809800978799x4,data:=Data.seq {toList:=[VS {cps:={toList:=[10]}} (t+4),VS {cps:={toList:=[13]}} (t+5),VS {cps:={toList:=[13,10]}} (t+6)]}})]),oB "int.__mod__" [VI (tr+2) (t+7),VI 3 (t+8)] (t+9) (n+1) (VI ((tr+2).fmod 3) (t+9)) (di:=1),oB "int.__add__" [VI tr ttr,VI 2 (t2+12)] (t+7) (n+1) (VI (tr+2) (t+7)) (di:=1),oB "str.__add__" [VS T1 (t2+10),VS r2 (t+1)] (t+3) (n+0) (VS w2 (t+3)) (di:=1),oB "str.__add__" [VS d2 v2,VS c2 (t2+18)] (t+1) (n+0) (VS r2 (t+1)) (di:=1)] [3,4] ([(n0+2,rgO 3 0),(n0+0,frameO [XR P (t0+0) (.ref x),YS P (t0+1) (.int 2 tp),Yk P (t0+2) (.int tr ttr),Yj P (t0+4) (.str T2 (t+10)),Yi P (t0+9) (.int 2 (t2+12)),XW P (t0+15) (.str c2 (t2+18)),YL P (t1+0) (.str d2 v2),kn21 P (t1+2) (.str r2 (t+1))] 8)])
def B7:List Nat:=[]
abbrev Dn n0(P:Params) t0 x tp tr ttr T2 t3 t2 c2 t1 d2 v2 r2:=((n0+0,frameO [XR P (t0+0) (.ref x),YS P (t0+1) (.int 2 tp),Yk P (t0+2) (.int tr ttr),Yj P (t0+4) (.str T2 (t3+10)),Yi P (t0+9) (.int 2 (t2+12)),XW P (t0+15) (.str c2 (t2+18)),YL P (t1+0) (.str d2 v2),kn21 P (t1+2) (.str r2 (t3+1))] 8):Xp)
def H4:Out:=let xr:=(NK b1 b2 P n0 t0 n1 t1 n2 t2 n3 t3 x d l hk tp tr ttr cs uc c0 d0 v0 r0 w0 s0 T0 us0 uc1 c1 d1 v1 r1 w1 s1 T1 us1 uc2 c2 d2 v2 r2 w2 s2 T2 us2).res;ev (bS b1 b2 P n t) 7 B7 [] xr.c (xr.k (.ok (.ret (.str mm um)))) xr.K xr.d [(Dn n0 P t0 x tp tr ttr T2 t3 t2 c2 t1 d2 v2 r2)] 0 0 [] []
abbrev mail2_4_ok:Prop:=SegE (H4 b1 b2 P n0 t0 n1 t1 n2 t2 n3 t3 n t x d l hk tp tr ttr cs uc c0 d0 v0 r0 w0 s0 T0 us0 uc1 c1 d1 v1 r1 w1 s1 T1 us1 uc2 c2 d2 v2 r2 w2 s2 T2 us2 mm um) (.flow (.ret (.str mm um))) (.call .none {}) 0 0 [] [0] ([(Dn n0 P t0 x tp tr ttr T2 t3 t2 c2 t1 d2 v2 r2)])
end
abbrev tmail21(a b m n:Nat)(c d e:Addr)(f g:Nat)(h:Int)(i:Nat)(j:Str)(k:Nat)(l o:Str)(p:Nat)(q r s t:Str)(u v:Nat)(w:Str):Prop:=∀x y z A B C D E F G H,mail2_2_s b1 b2 P a b m n x y c d e f g h i j k l o p q r s t u v w z A B C D E F G H/\∀I J K L M N O Q R,mail2_3_s b1 b2 P a b m n x y I J c d e f g h i j k l o p q r s t u v w z A B C D E F G H K L M N O Q R/\∀S T U V,mail2_4_ok b1 b2 P a b m n x y I J S T c d e f g h i j k l o p q r s t u v w z A B C D E F G H K L M N O Q R U V
abbrev Nx(a b:Nat)(c d e:Addr)(f g:Nat)(h:Int)(i:Nat)(j:Str)(k:Nat)(l:Str):Prop:=∀m n o p q r s t u v w,mail2_1_s b1 b2 P a b m n c d e f g h i j k l o p q r s t u v w/\tmail21 b1 b2 P a b m n c d e f g h i j k l o p q r s t u v w
theorem NZ(a b:Nat)(c d e:Addr)(f g:Nat)(h:Int)(i:Nat)(j:Str)(k:Nat)(l:Str):Mp b1 b2 P a b c d e f g h i j k l/\Nx b1 b2 P a b c d e f g h i j k l:=
 ⟨gO,fun _ _ _ _ _ _ _ _ _ _ _=>⟨gO,fun _ _ _ _ _ _ _ _ _ _ _=>⟨gO,fun _ _ _ _ _ _ _ _ _=>⟨gO,fun _ _ _ _=>gO⟩⟩⟩⟩
section
variable(a b m n:Nat)(c d e:Addr)(f g:Nat)(h:Int)(i:Nat)(j:Str)(k:Nat)(l o:Str)(p:Nat)(q r s t:Str)(u v:Nat)(w:Str)
theorem Vy:Nx b1 b2 P a b c d e f g h i j k l:=(NZ ..).2
theorem Fv:tmail21 b1 b2 P a b m n c d e f g h i j k l o p q r s t u v w:=(Vy _ ..).2
end
section
variable(n0 t0 n1 t1 n2 t2 n t:Nat)(x d l:Addr)(hk tp:Nat)(tr:Int)(ttr:Nat)(cs:Str)(uc:Nat)(c0 d0:Str)(v0:Nat)(r0 w0 s0 T0:Str)(us0 uc1:Nat)(c1 d1:Str)(v1:Nat)(r1 w1 s1 T1:Str)(us1 uc2:Nat)(c2 d2:Str)(v2:Nat)(r2 w2 s2 T2:Str)(us2:Nat)
theorem Mo:mail2_1_s b1 b2 P n0 t0 n t x d l hk tp tr ttr cs uc c0 d0 v0 r0 w0 s0 T0 us0 uc1 c1:=(Vy _ ..).1
theorem Mn:mail2_2_s b1 b2 P n0 t0 n1 t1 n t x d l hk tp tr ttr cs uc c0 d0 v0 r0 w0 s0 T0 us0 uc1 c1 d1 v1 r1 w1 s1 T1 us1 uc2 c2:=(Fv _ ..).1
theorem Mm:mail2_3_s b1 b2 P n0 t0 n1 t1 n2 t2 n t x d l hk tp tr ttr cs uc c0 d0 v0 r0 w0 s0 T0 us0 uc1 c1 d1 v1 r1 w1 s1 T1 us1 uc2 c2 d2 v2 r2 w2 s2 T2 us2:=((Fv _ ..).2 ..).1
end
end

def upOf(tr:Int):Bool:=tr.fmod 2==1
def eolOf(tr:Int):Nat:=(tr.fmod 3).toNat
theorem Zx{a:Int}{m:Nat}(hm:0<m):0<=a.fmod (m:Int)/\a.fmod (m:Int)<(m:Int):=by
 rw [Int.fmod_eq_emod_of_nonneg a (by omega)];exact ⟨Int.emod_nonneg a (by omega),Int.emod_lt_of_pos a (by omega)⟩
theorem Hu(tr:Int):tr.fmod 2=cond (upOf tr) 1 0:=by
 have h:=Zx (a:=tr) (m:=2) (by decide);have h':0<=tr.fmod 2/\tr.fmod 2<2:=h;unfold upOf;cases hc:tr.fmod 2==1 with
 | true=>exact eq_of_beq hc
 | false=>
  have:tr.fmod 2≠1:=fun h=>by rw [h] at hc;cases hc
  show tr.fmod 2=0;omega
theorem ZY(tr:Int):eolOf tr<3:=by
 have h:=Zx (a:=tr) (m:=3) (by decide);have h':0<=tr.fmod 3/\tr.fmod 3<3:=h;unfold eolOf;omega
theorem qo(tr:Int):tr.fmod 3=(eolOf tr:Int):=by
 have h:=Zx (a:=tr) (m:=3) (by decide);have h':0<=tr.fmod 3/\tr.fmod 3<3:=h;unfold eolOf;omega
theorem ZX(tr:Int):eolOf (tr+1)=nx (eolOf tr):=by
 have h0:=Int.fmod_eq_emod_of_nonneg tr (b:=3) (by decide);have h1:=Int.fmod_eq_emod_of_nonneg (tr+1) (b:=3) (by decide);have:eolOf tr=0\/eolOf tr=1\/eolOf tr=2:=by have:=ZY tr;omega
 have hi:=qo tr;have hj:=qo (tr+1);rcases this with e | e | e<;>rw [e] at hi ⊢<;>simp only [nx]<;>omega
theorem ql(tr:Int):eolOf (tr+2)=nx (nx (eolOf tr)):=by
 rw [←ZX,←ZX,Int.add_assoc];rfl
noncomputable def yW(up:Bool):Str:=⟨⟨cond up [65,66,67] [97,98,99]⟩⟩
def Zv(e u1 u2 u3:Nat):Nat:=match e with
 | 0=>u1
 | 1=>u2
 | _=>u3
section
variable{P:Params}{prog:Program}{w:World}{t n ti:Nat}{tr:Int}
theorem JG{l:Addr}{u1 u2 e:Nat}:Ob.Holds P (model prog w) (oB "list.__getitem__" [.ref l,.int (tr.fmod 2) ti] t n (.str (yW (upOf tr)) (cond (upOf tr) u2 u1)) (rd:=[(l,listO [.str ⟨⟨[97,98,99]⟩⟩ u1,.str ⟨⟨[65,66,67]⟩⟩ u2] e)])):=by
 rw [Hu tr];cases upOf tr with
 | true=>exact Xj (by decide) (by decide) rfl
 | false=>exact Xj (by decide) (by decide) rfl
theorem YG{k:Nat}{ki:Int}{uc:Nat}{up:Bool}(hk:k<3)(e:ki=(k:Int)):Ob.Holds P (model prog w) (oB "str.__getitem__" [.str (yW up) uc,.int ki ti] t n (.str (Xz k up) t) (di:=1)):=by
 subst e
 match k,hk with
 | 0,_ | 1,_ | 2,_=>cases up<;>exact o_sget rfl
theorem JE{l:Addr}{u1 u2 u3 e:Nat}:Ob.Holds P (model prog w) (oB "list.__getitem__" [.ref l,.int (tr.fmod 3) ti] t n (.str ⟨⟨Xr (eolOf tr)⟩⟩ (Zv (eolOf tr) u1 u2 u3)) (rd:=[(l,listO [.str ⟨⟨[10]⟩⟩ u1,.str ⟨⟨[13]⟩⟩ u2,.str ⟨⟨[13,10]⟩⟩ u3] e)])):=by
 rw [qo tr];have:eolOf tr=0\/eolOf tr=1\/eolOf tr=2:=by have:=ZY tr;omega
 rcases this with e | e | e<;>rw [e]
 ·exact Xj (by decide) (by decide) rfl
 ·exact Xj (by decide) (by decide) rfl
 ·exact Xj (by decide) (by decide) rfl
end
theorem qg{w:World}{A:Around}{R:Result->Shared->Prop}{g:Array GenState}{dr:Drawn}{os:OsState}{h:Heap}{tk:Nat}{tx:Nat}{e p a b c:Nat}{up:Bool}{x:Str}(ex:x=Tm p up e a b c)(rm:Room 20 A)(hpg:Prog (PP w) h)(he:e<3)(hp:p<3)(ha:1<=a)(hb:1<=b)(hc:1<=c)(hs:a+b+c<=7) (Hn:∀h' tk' tz,Prog (PP w) h'->Ext [] h h'->R (.ok (.ret (.str (mailS p up a b c) tz))) ⟨h',g,dr,tk',os⟩): codeAny (model pw w) A (.call (.ref 64) ⟨[.str x tx],[]⟩) R ⟨h,g,dr,tk,os⟩:=by
 subst ex;exact Tp rm hpg he hp ha hb hc hs Hn
theorem Yc(e:Nat):Xr e≠[]:=by unfold Xr;split<;>exact List.cons_ne_nil _ _
theorem Xl(e:Nat):(Xr e).length<=2:=by unfold Xr;split<;>decide
theorem XJ(k n:Nat)(up own:Bool):rawRow k n up own≠[]:=by
 intro h;have:=congrArg List.length h;cases own<;>simp [rawRow] at this
theorem XC(k n:Nat)(up own:Bool):(rawRow k n up own).length=n+1:=by cases own<;>simp [rawRow]
theorem YW{n:Nat}(h:1<=n):List.replicate n 46≠[]:=fun h2=>by
 have:=congrArg List.length h2;rw [List.length_replicate] at this;simp at this;omega
section
variable{w:World}{A:Around}{g:Array GenState}{dr:Drawn}{os:OsState}
abbrev CO(h:Heap)(w:World) tk(s:HS) tp tr ttr true false tk2 tk1 v1:=((h.objs.size+0,frameO [XR w.params (tk+0) (.ref s.x),YS w.params (tk+1) (.int 0 tp),Yk w.params (tk+2) (.int tr ttr),Yj w.params (tk+4) (.str ⟨⟨(((rawRow 0 (s.dots 0) (upOf tr) true++Xr (eolOf (tr+0)))++rawRow 1 (s.dots 1) (upOf tr) false)++Xr (eolOf (tr+1)))⟩⟩ (tk2+10)),Yi w.params (tk+9) (.int 2 (tk2+12)),XW w.params (tk+15) (.str (Xz 2 (upOf tr)) (tk2+18)),YL w.params (tk1+0) (.str (dotS (s.dots 1)) v1),kn21 w.params (tk1+2) (.str ⟨⟨rawRow 1 (s.dots 1) (upOf tr) false⟩⟩ (tk2+1))] 8):Xp)
abbrev CM(h:Heap)(w:World) tk(s:HS) tp tr ttr true tk1 v0:=((h.objs.size+0,frameO [XR w.params (tk+0) (.ref s.x),YS w.params (tk+1) (.int 0 tp),Yk w.params (tk+2) (.int tr ttr),Yj w.params (tk+4) (.str ⟨⟨(rawRow 0 (s.dots 0) (upOf tr) true++Xr (eolOf (tr+0)))⟩⟩ (tk1+9)),Yi w.params (tk+9) (.int 1 (tk1+11)),XW w.params (tk+15) (.str (Xz 1 (upOf tr)) (tk1+17)),YL w.params (tk1+0) (.str (dotS (s.dots 0)) v0),kn21 w.params (tk1+2) (.str ⟨⟨rawRow 0 (s.dots 0) (upOf tr) true⟩⟩ (tk1+1))] 8):Xp)
abbrev Dt(h:Heap)(w:World) tk(s:HS) tp tr ttr:=((h.objs.size+0,frameO [XR w.params (tk+0) (.ref s.x),YS w.params (tk+1) (.int 0 tp),Yk w.params (tk+2) (.int tr ttr),Yj w.params (tk+4) (.str ⟨⟨[]⟩⟩ (tk+3)),Yi w.params (tk+9) (.int 0 (tk+8)),XW w.params (tk+15) (.str (Xz 0 (upOf tr)) (tk+14))] 6):Xp)
abbrev JY(h:Heap):Xp:=(h.objs.size+2,rgO 3 0)
abbrev QD(h:Heap):Xp:=(h.objs.size+2,rgO 1 2)
abbrev QC(h:Heap):Xp:=(h.objs.size+2,rgO 2 1)
theorem Mk{R:Result->Shared->Prop}{h:Heap}{tk:Nat}{s:HS}{tr:Int}{tp ttr:Nat}(rm:Room 100 A)(hp:Prog (PP w) h)(ok:s.Ok2)(hs:s.dots 0+s.dots 1+s.dots 2<=7)(H:Has h (s.cells w.params)) (Hn:∀h' tk' tz,Prog (PP w) h'->Ext [] h h'->R (.ok (.ret (.str (mailS 0 (upOf tr) (s.dots 0) (s.dots 1) (s.dots 2)) tz))) ⟨h',g,dr,tk',os⟩): codeAny (model pw w) A (.call (.ref 227) ⟨[.ref s.x,.int 0 tp,.int tr ttr],[]⟩) R ⟨h,g,dr,tk,os⟩:=by
 have nn:∀{P:Addr->Prop},∀a∈([]:List Addr),P a:=fun a ha=>(nomatch ha);have l0:=ok.lo 0;have l1:=ok.lo 1;have l2:=ok.lo 2;have fr:∀a∈[h.objs.size+2,h.objs.size+0],h.objs.size<=a:=by
  exact aL (lar) (aL (lar) aN)
 refine XG (Nat.le_trans (lar) rm.d) (by rw [Yd];exact Nat.zero_le _) ?_;refine Xh (k:=80) [1,2] [0,3,4,5] [] (N1 ..).1.sg rfl (ob (YG (by decide) rfl) (ob JG (ob (XX (by decide)) Xn))) rm hp (by rw [List.append_nil];exact H) rfl rfl (Xf (lm:=[]) [2,3] rfl rfl) (Nat.le_refl _) trivial ?_;intro h1 hp1 S1 X1 _ st1;have Y1:Ext [] h h1:=X1;have S1':Has h1 ([(QD h),(Dt h w tk s tp tr ttr),(s.x,Xo s.d),(YC s w),(YP s),s.c0.cell,s.c1.cell,s.c2.cell]++[]):=S1;refine Yp (s:=s) (st1.rm.le (Nat.zero_le _)) hp1 ok.ok (q:=0) (by decide) (S1'.left.pick [4,2,3,5,6,7] rfl) ?_;intro h2 tk1 v0 hp2 X2;have S2:=S1'.ext X2;have Y2:=Y1.trans X2 nn;refine Xh (k:=60) [0,1,2,3] [4,5,6,7] [h.objs.size+2,h.objs.size+0] (Mw (W1 w) (W2 w) w.params h.objs.size tk h2.objs.size tk1 s.x s.d s.l s.hk tp tr ttr (yW (upOf tr)) (cond (upOf tr) (tk+11) (tk+10)) (Xz 0 (upOf tr)) (dotS (s.dots 0)) v0 ⟨⟨rawRow 0 (s.dots 0) (upOf tr) true⟩⟩ ⟨⟨rawRow 0 (s.dots 0) (upOf tr) true⟩⟩ ⟨⟨Xr (eolOf (tr+0))⟩⟩ ⟨⟨(rawRow 0 (s.dots 0) (upOf tr) true++Xr (eolOf (tr+0)))⟩⟩ (Zv (eolOf (tr+0)) (tk1+3) (tk1+4) (tk1+5)) (cond (upOf tr) (tk1+14) (tk1+13)) (Xz 1 (upOf tr))).sg rfl (ob (YG (by decide) rfl) (ob JG (ob (XX (by decide)) (ob (XO (XJ _ _ _ _) (Yc _) (by simp only [List.length_append,XC];have:=Xl (eolOf (tr+0));have:=Xl (eolOf (tr+1));have:=Xl (eolOf (tr+2));omega)) (ob JE (ob (XX (by decide)) (ob XH (ob (Mf rfl) (ob (XO (YW l0) (List.cons_ne_nil _ _) (by simp only [List.length_replicate,List.length_singleton];omega)) Xn))))))))) rm hp2 S2 rfl rfl (Xf (lm:=[(QD h),(Dt h w tk s tp tr ttr)]) [2,3] rfl rfl) st1.dd st1.kk ?_;intro h3 hp3 S3 X3 _ st3;have Y3:=Y2.new X3 fr;have S3':Has h3 ([(QC h),(CM h w tk s tp tr ttr true tk1 v0),(s.x,Xo s.d),(YC s w),(YP s),s.c0.cell,s.c1.cell,s.c2.cell]++[]):=S3;refine Yp (s:=s) (st3.rm.le (Nat.zero_le _)) hp3 ok.ok (q:=1) (by decide) (S3'.left.pick [4,2,3,5,6,7] rfl) ?_;intro h4 tk2 v1 hp4 X4;have S4:=S3'.ext X4;have Y4:=Y3.trans X4 nn;refine Xh (k:=60) [0,1,2,3] [4,5,6,7] [h.objs.size+2,h.objs.size+0] (Mv (W1 w) (W2 w) w.params h.objs.size tk h2.objs.size tk1 h4.objs.size tk2 s.x s.d s.l s.hk tp tr ttr (yW (upOf tr)) (cond (upOf tr) (tk+11) (tk+10)) (Xz 0 (upOf tr)) (dotS (s.dots 0)) v0 ⟨⟨rawRow 0 (s.dots 0) (upOf tr) true⟩⟩ ⟨⟨rawRow 0 (s.dots 0) (upOf tr) true⟩⟩ ⟨⟨Xr (eolOf (tr+0))⟩⟩ ⟨⟨(rawRow 0 (s.dots 0) (upOf tr) true++Xr (eolOf (tr+0)))⟩⟩ (Zv (eolOf (tr+0)) (tk1+3) (tk1+4) (tk1+5)) (cond (upOf tr) (tk1+14) (tk1+13)) (Xz 1 (upOf tr)) (dotS (s.dots 1)) v1 ⟨⟨rawRow 1 (s.dots 1) (upOf tr) false⟩⟩ ⟨⟨((rawRow 0 (s.dots 0) (upOf tr) true++Xr (eolOf (tr+0)))++rawRow 1 (s.dots 1) (upOf tr) false)⟩⟩ ⟨⟨Xr (eolOf (tr+1))⟩⟩ ⟨⟨(((rawRow 0 (s.dots 0) (upOf tr) true++Xr (eolOf (tr+0)))++rawRow 1 (s.dots 1) (upOf tr) false)++Xr (eolOf (tr+1)))⟩⟩ (Zv (eolOf (tr+1)) (tk2+4) (tk2+5) (tk2+6)) (cond (upOf tr) (tk2+15) (tk2+14)) (Xz 2 (upOf tr))).sg rfl (ob (YG (by decide) rfl) (ob JG (ob (XX (by decide)) (ob (XO (List.append_ne_nil_of_right_ne_nil _ (XJ _ _ _ _)) (Yc _) (by simp only [List.length_append,XC];have:=Xl (eolOf (tr+0));have:=Xl (eolOf (tr+1));have:=Xl (eolOf (tr+2));omega)) (ob JE (ob (XX (by decide)) (ob XH (ob (XO (List.append_ne_nil_of_right_ne_nil _ (Yc _)) (XJ _ _ _ _) (by simp only [List.length_append,XC];have:=Xl (eolOf (tr+0));have:=Xl (eolOf (tr+1));have:=Xl (eolOf (tr+2));omega)) (ob (XO (List.cons_ne_nil _ _) (YW l1) (by simp only [List.length_replicate,List.length_singleton];omega)) Xn))))))))) rm hp4 S4 rfl rfl (Xf (lm:=[(QC h),(CM h w tk s tp tr ttr true tk1 v0)]) [2,3] rfl rfl) st3.dd st3.kk ?_;intro h5 hp5 S5 X5 _ st5;have Y5:=Y4.new X5 fr;have S5':Has h5 ([(JY h),(CO h w tk s tp tr ttr true false tk2 tk1 v1),(s.x,Xo s.d),(YC s w),(YP s),s.c0.cell,s.c1.cell,s.c2.cell]++[]):=S5;refine Yp (s:=s) (st5.rm.le (Nat.zero_le _)) hp5 ok.ok (q:=2) (by decide) (S5'.left.pick [4,2,3,5,6,7] rfl) ?_;intro h6 tk3 v2 hp6 X6;have S6:=S5'.ext X6;have Y6:=Y5.trans X6 nn;refine Xh (k:=60) [0,1] [2,3,4,5,6,7] [h.objs.size+2,h.objs.size+0] (Mu (W1 w) (W2 w) w.params h.objs.size tk h2.objs.size tk1 h4.objs.size tk2 h6.objs.size tk3 s.x s.d s.l s.hk tp tr ttr (yW (upOf tr)) (cond (upOf tr) (tk+11) (tk+10)) (Xz 0 (upOf tr)) (dotS (s.dots 0)) v0 ⟨⟨rawRow 0 (s.dots 0) (upOf tr) true⟩⟩ ⟨⟨rawRow 0 (s.dots 0) (upOf tr) true⟩⟩ ⟨⟨Xr (eolOf (tr+0))⟩⟩ ⟨⟨(rawRow 0 (s.dots 0) (upOf tr) true++Xr (eolOf (tr+0)))⟩⟩ (Zv (eolOf (tr+0)) (tk1+3) (tk1+4) (tk1+5)) (cond (upOf tr) (tk1+14) (tk1+13)) (Xz 1 (upOf tr)) (dotS (s.dots 1)) v1 ⟨⟨rawRow 1 (s.dots 1) (upOf tr) false⟩⟩ ⟨⟨((rawRow 0 (s.dots 0) (upOf tr) true++Xr (eolOf (tr+0)))++rawRow 1 (s.dots 1) (upOf tr) false)⟩⟩ ⟨⟨Xr (eolOf (tr+1))⟩⟩ ⟨⟨(((rawRow 0 (s.dots 0) (upOf tr) true++Xr (eolOf (tr+0)))++rawRow 1 (s.dots 1) (upOf tr) false)++Xr (eolOf (tr+1)))⟩⟩ (Zv (eolOf (tr+1)) (tk2+4) (tk2+5) (tk2+6)) (cond (upOf tr) (tk2+15) (tk2+14)) (Xz 2 (upOf tr)) (dotS (s.dots 2)) v2 ⟨⟨rawRow 2 (s.dots 2) (upOf tr) false⟩⟩ ⟨⟨((((rawRow 0 (s.dots 0) (upOf tr) true++Xr (eolOf (tr+0)))++rawRow 1 (s.dots 1) (upOf tr) false)++Xr (eolOf (tr+1)))++rawRow 2 (s.dots 2) (upOf tr) false)⟩⟩ ⟨⟨Xr (eolOf (tr+2))⟩⟩ ⟨⟨(((((rawRow 0 (s.dots 0) (upOf tr) true++Xr (eolOf (tr+0)))++rawRow 1 (s.dots 1) (upOf tr) false)++Xr (eolOf (tr+1)))++rawRow 2 (s.dots 2) (upOf tr) false)++Xr (eolOf (tr+2)))⟩⟩ (Zv (eolOf (tr+2)) (tk3+4) (tk3+5) (tk3+6))).sg rfl (ob (XO (List.append_ne_nil_of_right_ne_nil _ (XJ _ _ _ _)) (Yc _) (by simp only [List.length_append,XC];have:=Xl (eolOf (tr+0));have:=Xl (eolOf (tr+1));have:=Xl (eolOf (tr+2));omega)) (ob JE (ob (XX (by decide)) (ob XH (ob (XO (List.append_ne_nil_of_right_ne_nil _ (Yc _)) (XJ _ _ _ _) (by simp only [List.length_append,XC];have:=Xl (eolOf (tr+0));have:=Xl (eolOf (tr+1));have:=Xl (eolOf (tr+2));omega)) (ob (XO (List.cons_ne_nil _ _) (YW l2) (by simp only [List.length_replicate,List.length_singleton];omega)) Xn)))))) rm hp6 S6 rfl rfl (Xf (lm:=[(JY h),(CO h w tk s tp tr ttr true false tk2 tk1 v1)]) [] rfl rfl) st5.dd st5.kk ?_;intro h7 hp7 S7 X7 _ st7;have Y7:=Y6.new X7 fr;have eT:(⟨⟨(((((rawRow 0 (s.dots 0) (upOf tr) true++Xr (eolOf (tr+0)))++rawRow 1 (s.dots 1) (upOf tr) false)++Xr (eolOf (tr+1)))++rawRow 2 (s.dots 2) (upOf tr) false)++Xr (eolOf (tr+2)))⟩⟩:Str)=Tm 0 (upOf tr) (eolOf tr) (s.dots 0) (s.dots 1) (s.dots 2):=by
  refine congrArg (fun l:List Nat=>(⟨⟨l⟩⟩:Str)) ?_;unfold yw;rw [ql,ZX,Int.add_zero];simp only [List.append_assoc,List.append_cancel_left_eq]
  rfl
 refine qg eT (st7.rm.le (by decide)) hp7 (ZY tr) (by decide) l0 l1 l2 hs ?_;intro h8 tk8 tz hp8 X8;have S7':Has h7 ([(JY h),(h.objs.size+0,frameO [XR w.params (tk+0) (.ref s.x),YS w.params (tk+1) (.int 0 tp),Yk w.params (tk+2) (.int tr ttr),Yj w.params (tk+4) (.str ⟨⟨(((((rawRow 0 (s.dots 0) (upOf tr) true++Xr (eolOf (tr+0)))++rawRow 1 (s.dots 1) (upOf tr) false)++Xr (eolOf (tr+1)))++rawRow 2 (s.dots 2) (upOf tr) false)++Xr (eolOf (tr+2)))⟩⟩ (tk3+10)),Yi w.params (tk+9) (.int 2 (tk2+12)),XW w.params (tk+15) (.str (Xz 2 (upOf tr)) (tk2+18)),YL w.params (tk1+0) (.str (dotS (s.dots 2)) v2),kn21 w.params (tk1+2) (.str ⟨⟨rawRow 2 (s.dots 2) (upOf tr) false⟩⟩ (tk3+1))] 8),(s.x,Xo s.d),(YC s w),(YP s),s.c0.cell,s.c1.cell,s.c2.cell]++[]):=S7;have S8:=S7'.ext X8;refine Xm (k:=100) [1] [0,2,3,4,5,6,7] [] (((Fx _ ..).2 ..).2 ..).sg rfl Xn rm hp8 S8 rfl rfl (Xf (lm:=[]) [0] rfl rfl) st7.dd st7.kk ?_;intro h9 hp9 S9 X9;exact Hn h9 _ tz hp9 ((Y7.trans X8 nn).trans X9 nn)
abbrev CN(h:Heap)(w:World) tk(s:HS) tp tr ttr false true tk2 tk1 v1:=((h.objs.size+0,frameO [XR w.params (tk+0) (.ref s.x),YS w.params (tk+1) (.int 1 tp),Yk w.params (tk+2) (.int tr ttr),Yj w.params (tk+4) (.str ⟨⟨(((rawRow 0 (s.dots 0) (upOf tr) false++Xr (eolOf (tr+0)))++rawRow 1 (s.dots 1) (upOf tr) true)++Xr (eolOf (tr+1)))⟩⟩ (tk2+10)),Yi w.params (tk+9) (.int 2 (tk2+12)),XW w.params (tk+15) (.str (Xz 2 (upOf tr)) (tk2+18)),YL w.params (tk1+0) (.str (dotS (s.dots 1)) v1),kn21 w.params (tk1+2) (.str ⟨⟨rawRow 1 (s.dots 1) (upOf tr) true⟩⟩ (tk2+1))] 8):Xp)
abbrev CL(h:Heap)(w:World) tk(s:HS) tp tr ttr false tk1 v0:=((h.objs.size+0,frameO [XR w.params (tk+0) (.ref s.x),YS w.params (tk+1) (.int 1 tp),Yk w.params (tk+2) (.int tr ttr),Yj w.params (tk+4) (.str ⟨⟨(rawRow 0 (s.dots 0) (upOf tr) false++Xr (eolOf (tr+0)))⟩⟩ (tk1+9)),Yi w.params (tk+9) (.int 1 (tk1+11)),XW w.params (tk+15) (.str (Xz 1 (upOf tr)) (tk1+17)),YL w.params (tk1+0) (.str (dotS (s.dots 0)) v0),kn21 w.params (tk1+2) (.str ⟨⟨rawRow 0 (s.dots 0) (upOf tr) false⟩⟩ (tk1+1))] 8):Xp)
abbrev Ds(h:Heap)(w:World) tk(s:HS) tp tr ttr:=((h.objs.size+0,frameO [XR w.params (tk+0) (.ref s.x),YS w.params (tk+1) (.int 1 tp),Yk w.params (tk+2) (.int tr ttr),Yj w.params (tk+4) (.str ⟨⟨[]⟩⟩ (tk+3)),Yi w.params (tk+9) (.int 0 (tk+8)),XW w.params (tk+15) (.str (Xz 0 (upOf tr)) (tk+14))] 6):Xp)
theorem Mj{R:Result->Shared->Prop}{h:Heap}{tk:Nat}{s:HS}{tr:Int}{tp ttr:Nat}(rm:Room 100 A)(hp:Prog (PP w) h)(ok:s.Ok2)(hs:s.dots 0+s.dots 1+s.dots 2<=7)(H:Has h (s.cells w.params)) (Hn:∀h' tk' tz,Prog (PP w) h'->Ext [] h h'->R (.ok (.ret (.str (mailS 1 (upOf tr) (s.dots 0) (s.dots 1) (s.dots 2)) tz))) ⟨h',g,dr,tk',os⟩): codeAny (model pw w) A (.call (.ref 227) ⟨[.ref s.x,.int 1 tp,.int tr ttr],[]⟩) R ⟨h,g,dr,tk,os⟩:=by
 have nn:∀{P:Addr->Prop},∀a∈([]:List Addr),P a:=fun a ha=>(nomatch ha);have l0:=ok.lo 0;have l1:=ok.lo 1;have l2:=ok.lo 2;have fr:∀a∈[h.objs.size+2,h.objs.size+0],h.objs.size<=a:=by
  exact aL (lar) (aL (lar) aN)
 refine XG (Nat.le_trans (lar) rm.d) (by rw [Yd];exact Nat.zero_le _) ?_;refine Xh (k:=80) [1,2] [0,3,4,5] [] (N0 ..).1.sg rfl (ob (YG (by decide) rfl) (ob JG (ob (XX (by decide)) Xn))) rm hp (by rw [List.append_nil];exact H) rfl rfl (Xf (lm:=[]) [2,3] rfl rfl) (Nat.le_refl _) trivial ?_;intro h1 hp1 S1 X1 _ st1;have Y1:Ext [] h h1:=X1;have S1':Has h1 ([(QD h),(Ds h w tk s tp tr ttr),(s.x,Xo s.d),(YC s w),(YP s),s.c0.cell,s.c1.cell,s.c2.cell]++[]):=S1;refine Yp (s:=s) (st1.rm.le (Nat.zero_le _)) hp1 ok.ok (q:=0) (by decide) (S1'.left.pick [4,2,3,5,6,7] rfl) ?_;intro h2 tk1 v0 hp2 X2;have S2:=S1'.ext X2;have Y2:=Y1.trans X2 nn;refine Xh (k:=60) [0,1,2,3] [4,5,6,7] [h.objs.size+2,h.objs.size+0] (Ms (W1 w) (W2 w) w.params h.objs.size tk h2.objs.size tk1 s.x s.d s.l s.hk tp tr ttr (yW (upOf tr)) (cond (upOf tr) (tk+11) (tk+10)) (Xz 0 (upOf tr)) (dotS (s.dots 0)) v0 ⟨⟨rawRow 0 (s.dots 0) (upOf tr) false⟩⟩ ⟨⟨rawRow 0 (s.dots 0) (upOf tr) false⟩⟩ ⟨⟨Xr (eolOf (tr+0))⟩⟩ ⟨⟨(rawRow 0 (s.dots 0) (upOf tr) false++Xr (eolOf (tr+0)))⟩⟩ (Zv (eolOf (tr+0)) (tk1+3) (tk1+4) (tk1+5)) (cond (upOf tr) (tk1+14) (tk1+13)) (Xz 1 (upOf tr))).sg rfl (ob (YG (by decide) rfl) (ob JG (ob (XX (by decide)) (ob (XO (XJ _ _ _ _) (Yc _) (by simp only [List.length_append,XC];have:=Xl (eolOf (tr+0));have:=Xl (eolOf (tr+1));have:=Xl (eolOf (tr+2));omega)) (ob JE (ob (XX (by decide)) (ob XH (ob (Mf rfl) (ob (XO (List.cons_ne_nil _ _) (YW l0) (by simp only [List.length_replicate,List.length_singleton];omega)) Xn))))))))) rm hp2 S2 rfl rfl (Xf (lm:=[(QD h),(Ds h w tk s tp tr ttr)]) [2,3] rfl rfl) st1.dd st1.kk ?_;intro h3 hp3 S3 X3 _ st3;have Y3:=Y2.new X3 fr;have S3':Has h3 ([(QC h),(CL h w tk s tp tr ttr false tk1 v0),(s.x,Xo s.d),(YC s w),(YP s),s.c0.cell,s.c1.cell,s.c2.cell]++[]):=S3;refine Yp (s:=s) (st3.rm.le (Nat.zero_le _)) hp3 ok.ok (q:=1) (by decide) (S3'.left.pick [4,2,3,5,6,7] rfl) ?_;intro h4 tk2 v1 hp4 X4;have S4:=S3'.ext X4;have Y4:=Y3.trans X4 nn;refine Xh (k:=60) [0,1,2,3] [4,5,6,7] [h.objs.size+2,h.objs.size+0] (Mr (W1 w) (W2 w) w.params h.objs.size tk h2.objs.size tk1 h4.objs.size tk2 s.x s.d s.l s.hk tp tr ttr (yW (upOf tr)) (cond (upOf tr) (tk+11) (tk+10)) (Xz 0 (upOf tr)) (dotS (s.dots 0)) v0 ⟨⟨rawRow 0 (s.dots 0) (upOf tr) false⟩⟩ ⟨⟨rawRow 0 (s.dots 0) (upOf tr) false⟩⟩ ⟨⟨Xr (eolOf (tr+0))⟩⟩ ⟨⟨(rawRow 0 (s.dots 0) (upOf tr) false++Xr (eolOf (tr+0)))⟩⟩ (Zv (eolOf (tr+0)) (tk1+3) (tk1+4) (tk1+5)) (cond (upOf tr) (tk1+14) (tk1+13)) (Xz 1 (upOf tr)) (dotS (s.dots 1)) v1 ⟨⟨rawRow 1 (s.dots 1) (upOf tr) true⟩⟩ ⟨⟨((rawRow 0 (s.dots 0) (upOf tr) false++Xr (eolOf (tr+0)))++rawRow 1 (s.dots 1) (upOf tr) true)⟩⟩ ⟨⟨Xr (eolOf (tr+1))⟩⟩ ⟨⟨(((rawRow 0 (s.dots 0) (upOf tr) false++Xr (eolOf (tr+0)))++rawRow 1 (s.dots 1) (upOf tr) true)++Xr (eolOf (tr+1)))⟩⟩ (Zv (eolOf (tr+1)) (tk2+4) (tk2+5) (tk2+6)) (cond (upOf tr) (tk2+15) (tk2+14)) (Xz 2 (upOf tr))).sg rfl (ob (YG (by decide) rfl) (ob JG (ob (XX (by decide)) (ob (XO (List.append_ne_nil_of_right_ne_nil _ (XJ _ _ _ _)) (Yc _) (by simp only [List.length_append,XC];have:=Xl (eolOf (tr+0));have:=Xl (eolOf (tr+1));have:=Xl (eolOf (tr+2));omega)) (ob JE (ob (XX (by decide)) (ob XH (ob (XO (List.append_ne_nil_of_right_ne_nil _ (Yc _)) (XJ _ _ _ _) (by simp only [List.length_append,XC];have:=Xl (eolOf (tr+0));have:=Xl (eolOf (tr+1));have:=Xl (eolOf (tr+2));omega)) (ob (XO (YW l1) (List.cons_ne_nil _ _) (by simp only [List.length_replicate,List.length_singleton];omega)) Xn))))))))) rm hp4 S4 rfl rfl (Xf (lm:=[(QC h),(CL h w tk s tp tr ttr false tk1 v0)]) [2,3] rfl rfl) st3.dd st3.kk ?_;intro h5 hp5 S5 X5 _ st5;have Y5:=Y4.new X5 fr;have S5':Has h5 ([(JY h),(CN h w tk s tp tr ttr false true tk2 tk1 v1),(s.x,Xo s.d),(YC s w),(YP s),s.c0.cell,s.c1.cell,s.c2.cell]++[]):=S5;refine Yp (s:=s) (st5.rm.le (Nat.zero_le _)) hp5 ok.ok (q:=2) (by decide) (S5'.left.pick [4,2,3,5,6,7] rfl) ?_;intro h6 tk3 v2 hp6 X6;have S6:=S5'.ext X6;have Y6:=Y5.trans X6 nn;refine Xh (k:=60) [0,1] [2,3,4,5,6,7] [h.objs.size+2,h.objs.size+0] (Mq (W1 w) (W2 w) w.params h.objs.size tk h2.objs.size tk1 h4.objs.size tk2 h6.objs.size tk3 s.x s.d s.l s.hk tp tr ttr (yW (upOf tr)) (cond (upOf tr) (tk+11) (tk+10)) (Xz 0 (upOf tr)) (dotS (s.dots 0)) v0 ⟨⟨rawRow 0 (s.dots 0) (upOf tr) false⟩⟩ ⟨⟨rawRow 0 (s.dots 0) (upOf tr) false⟩⟩ ⟨⟨Xr (eolOf (tr+0))⟩⟩ ⟨⟨(rawRow 0 (s.dots 0) (upOf tr) false++Xr (eolOf (tr+0)))⟩⟩ (Zv (eolOf (tr+0)) (tk1+3) (tk1+4) (tk1+5)) (cond (upOf tr) (tk1+14) (tk1+13)) (Xz 1 (upOf tr)) (dotS (s.dots 1)) v1 ⟨⟨rawRow 1 (s.dots 1) (upOf tr) true⟩⟩ ⟨⟨((rawRow 0 (s.dots 0) (upOf tr) false++Xr (eolOf (tr+0)))++rawRow 1 (s.dots 1) (upOf tr) true)⟩⟩ ⟨⟨Xr (eolOf (tr+1))⟩⟩ ⟨⟨(((rawRow 0 (s.dots 0) (upOf tr) false++Xr (eolOf (tr+0)))++rawRow 1 (s.dots 1) (upOf tr) true)++Xr (eolOf (tr+1)))⟩⟩ (Zv (eolOf (tr+1)) (tk2+4) (tk2+5) (tk2+6)) (cond (upOf tr) (tk2+15) (tk2+14)) (Xz 2 (upOf tr)) (dotS (s.dots 2)) v2 ⟨⟨rawRow 2 (s.dots 2) (upOf tr) false⟩⟩ ⟨⟨((((rawRow 0 (s.dots 0) (upOf tr) false++Xr (eolOf (tr+0)))++rawRow 1 (s.dots 1) (upOf tr) true)++Xr (eolOf (tr+1)))++rawRow 2 (s.dots 2) (upOf tr) false)⟩⟩ ⟨⟨Xr (eolOf (tr+2))⟩⟩ ⟨⟨(((((rawRow 0 (s.dots 0) (upOf tr) false++Xr (eolOf (tr+0)))++rawRow 1 (s.dots 1) (upOf tr) true)++Xr (eolOf (tr+1)))++rawRow 2 (s.dots 2) (upOf tr) false)++Xr (eolOf (tr+2)))⟩⟩ (Zv (eolOf (tr+2)) (tk3+4) (tk3+5) (tk3+6))).sg rfl (ob (XO (List.append_ne_nil_of_right_ne_nil _ (XJ _ _ _ _)) (Yc _) (by simp only [List.length_append,XC];have:=Xl (eolOf (tr+0));have:=Xl (eolOf (tr+1));have:=Xl (eolOf (tr+2));omega)) (ob JE (ob (XX (by decide)) (ob XH (ob (XO (List.append_ne_nil_of_right_ne_nil _ (Yc _)) (XJ _ _ _ _) (by simp only [List.length_append,XC];have:=Xl (eolOf (tr+0));have:=Xl (eolOf (tr+1));have:=Xl (eolOf (tr+2));omega)) (ob (XO (List.cons_ne_nil _ _) (YW l2) (by simp only [List.length_replicate,List.length_singleton];omega)) Xn)))))) rm hp6 S6 rfl rfl (Xf (lm:=[(JY h),(CN h w tk s tp tr ttr false true tk2 tk1 v1)]) [] rfl rfl) st5.dd st5.kk ?_;intro h7 hp7 S7 X7 _ st7;have Y7:=Y6.new X7 fr;have eT:(⟨⟨(((((rawRow 0 (s.dots 0) (upOf tr) false++Xr (eolOf (tr+0)))++rawRow 1 (s.dots 1) (upOf tr) true)++Xr (eolOf (tr+1)))++rawRow 2 (s.dots 2) (upOf tr) false)++Xr (eolOf (tr+2)))⟩⟩:Str)=Tm 1 (upOf tr) (eolOf tr) (s.dots 0) (s.dots 1) (s.dots 2):=by
  refine congrArg (fun l:List Nat=>(⟨⟨l⟩⟩:Str)) ?_;unfold yw;rw [ql,ZX,Int.add_zero];simp only [List.append_assoc,List.append_cancel_left_eq]
  rfl
 refine qg eT (st7.rm.le (by decide)) hp7 (ZY tr) (by decide) l0 l1 l2 hs ?_;intro h8 tk8 tz hp8 X8;have S7':Has h7 ([(JY h),(h.objs.size+0,frameO [XR w.params (tk+0) (.ref s.x),YS w.params (tk+1) (.int 1 tp),Yk w.params (tk+2) (.int tr ttr),Yj w.params (tk+4) (.str ⟨⟨(((((rawRow 0 (s.dots 0) (upOf tr) false++Xr (eolOf (tr+0)))++rawRow 1 (s.dots 1) (upOf tr) true)++Xr (eolOf (tr+1)))++rawRow 2 (s.dots 2) (upOf tr) false)++Xr (eolOf (tr+2)))⟩⟩ (tk3+10)),Yi w.params (tk+9) (.int 2 (tk2+12)),XW w.params (tk+15) (.str (Xz 2 (upOf tr)) (tk2+18)),YL w.params (tk1+0) (.str (dotS (s.dots 2)) v2),kn21 w.params (tk1+2) (.str ⟨⟨rawRow 2 (s.dots 2) (upOf tr) false⟩⟩ (tk3+1))] 8),(s.x,Xo s.d),(YC s w),(YP s),s.c0.cell,s.c1.cell,s.c2.cell]++[]):=S7;have S8:=S7'.ext X8;refine Xm (k:=100) [1] [0,2,3,4,5,6,7] [] (((Fw _ ..).2 ..).2 ..).sg rfl Xn rm hp8 S8 rfl rfl (Xf (lm:=[]) [0] rfl rfl) st7.dd st7.kk ?_;intro h9 hp9 S9 X9;exact Hn h9 _ tz hp9 ((Y7.trans X8 nn).trans X9 nn)
abbrev CP(h:Heap)(w:World) tk(s:HS) tp tr ttr false tk2 tk1 v1:=((h.objs.size+0,frameO [XR w.params (tk+0) (.ref s.x),YS w.params (tk+1) (.int 2 tp),Yk w.params (tk+2) (.int tr ttr),Yj w.params (tk+4) (.str ⟨⟨(((rawRow 0 (s.dots 0) (upOf tr) false++Xr (eolOf (tr+0)))++rawRow 1 (s.dots 1) (upOf tr) false)++Xr (eolOf (tr+1)))⟩⟩ (tk2+10)),Yi w.params (tk+9) (.int 2 (tk2+12)),XW w.params (tk+15) (.str (Xz 2 (upOf tr)) (tk2+18)),YL w.params (tk1+0) (.str (dotS (s.dots 1)) v1),kn21 w.params (tk1+2) (.str ⟨⟨rawRow 1 (s.dots 1) (upOf tr) false⟩⟩ (tk2+1))] 8):Xp)
abbrev CK(h:Heap)(w:World) tk(s:HS) tp tr ttr false tk1 v0:=((h.objs.size+0,frameO [XR w.params (tk+0) (.ref s.x),YS w.params (tk+1) (.int 2 tp),Yk w.params (tk+2) (.int tr ttr),Yj w.params (tk+4) (.str ⟨⟨(rawRow 0 (s.dots 0) (upOf tr) false++Xr (eolOf (tr+0)))⟩⟩ (tk1+9)),Yi w.params (tk+9) (.int 1 (tk1+11)),XW w.params (tk+15) (.str (Xz 1 (upOf tr)) (tk1+17)),YL w.params (tk1+0) (.str (dotS (s.dots 0)) v0),kn21 w.params (tk1+2) (.str ⟨⟨rawRow 0 (s.dots 0) (upOf tr) false⟩⟩ (tk1+1))] 8):Xp)
abbrev Dr(h:Heap)(w:World) tk(s:HS) tp tr ttr:=((h.objs.size+0,frameO [XR w.params (tk+0) (.ref s.x),YS w.params (tk+1) (.int 2 tp),Yk w.params (tk+2) (.int tr ttr),Yj w.params (tk+4) (.str ⟨⟨[]⟩⟩ (tk+3)),Yi w.params (tk+9) (.int 0 (tk+8)),XW w.params (tk+15) (.str (Xz 0 (upOf tr)) (tk+14))] 6):Xp)
theorem Mi{R:Result->Shared->Prop}{h:Heap}{tk:Nat}{s:HS}{tr:Int}{tp ttr:Nat}(rm:Room 100 A)(hp:Prog (PP w) h)(ok:s.Ok2)(hs:s.dots 0+s.dots 1+s.dots 2<=7)(H:Has h (s.cells w.params)) (Hn:∀h' tk' tz,Prog (PP w) h'->Ext [] h h'->R (.ok (.ret (.str (mailS 2 (upOf tr) (s.dots 0) (s.dots 1) (s.dots 2)) tz))) ⟨h',g,dr,tk',os⟩): codeAny (model pw w) A (.call (.ref 227) ⟨[.ref s.x,.int 2 tp,.int tr ttr],[]⟩) R ⟨h,g,dr,tk,os⟩:=by
 have nn:∀{P:Addr->Prop},∀a∈([]:List Addr),P a:=fun a ha=>(nomatch ha);have l0:=ok.lo 0;have l1:=ok.lo 1;have l2:=ok.lo 2;have fr:∀a∈[h.objs.size+2,h.objs.size+0],h.objs.size<=a:=by
  exact aL (lar) (aL (lar) aN)
 refine XG (Nat.le_trans (lar) rm.d) (by rw [Yd];exact Nat.zero_le _) ?_;refine Xh (k:=80) [1,2] [0,3,4,5] [] (NZ ..).1.sg rfl (ob (YG (by decide) rfl) (ob JG (ob (XX (by decide)) Xn))) rm hp (by rw [List.append_nil];exact H) rfl rfl (Xf (lm:=[]) [2,3] rfl rfl) (Nat.le_refl _) trivial ?_;intro h1 hp1 S1 X1 _ st1;have Y1:Ext [] h h1:=X1;have S1':Has h1 ([(QD h),(Dr h w tk s tp tr ttr),(s.x,Xo s.d),(YC s w),(YP s),s.c0.cell,s.c1.cell,s.c2.cell]++[]):=S1;refine Yp (s:=s) (st1.rm.le (Nat.zero_le _)) hp1 ok.ok (q:=0) (by decide) (S1'.left.pick [4,2,3,5,6,7] rfl) ?_;intro h2 tk1 v0 hp2 X2;have S2:=S1'.ext X2;have Y2:=Y1.trans X2 nn;refine Xh (k:=60) [0,1,2,3] [4,5,6,7] [h.objs.size+2,h.objs.size+0] (Mo (W1 w) (W2 w) w.params h.objs.size tk h2.objs.size tk1 s.x s.d s.l s.hk tp tr ttr (yW (upOf tr)) (cond (upOf tr) (tk+11) (tk+10)) (Xz 0 (upOf tr)) (dotS (s.dots 0)) v0 ⟨⟨rawRow 0 (s.dots 0) (upOf tr) false⟩⟩ ⟨⟨rawRow 0 (s.dots 0) (upOf tr) false⟩⟩ ⟨⟨Xr (eolOf (tr+0))⟩⟩ ⟨⟨(rawRow 0 (s.dots 0) (upOf tr) false++Xr (eolOf (tr+0)))⟩⟩ (Zv (eolOf (tr+0)) (tk1+3) (tk1+4) (tk1+5)) (cond (upOf tr) (tk1+14) (tk1+13)) (Xz 1 (upOf tr))).sg rfl (ob (YG (by decide) rfl) (ob JG (ob (XX (by decide)) (ob (XO (XJ _ _ _ _) (Yc _) (by simp only [List.length_append,XC];have:=Xl (eolOf (tr+0));have:=Xl (eolOf (tr+1));have:=Xl (eolOf (tr+2));omega)) (ob JE (ob (XX (by decide)) (ob XH (ob (Mf rfl) (ob (XO (List.cons_ne_nil _ _) (YW l0) (by simp only [List.length_replicate,List.length_singleton];omega)) Xn))))))))) rm hp2 S2 rfl rfl (Xf (lm:=[(QD h),(Dr h w tk s tp tr ttr)]) [2,3] rfl rfl) st1.dd st1.kk ?_;intro h3 hp3 S3 X3 _ st3;have Y3:=Y2.new X3 fr;have S3':Has h3 ([(QC h),(CK h w tk s tp tr ttr false tk1 v0),(s.x,Xo s.d),(YC s w),(YP s),s.c0.cell,s.c1.cell,s.c2.cell]++[]):=S3;refine Yp (s:=s) (st3.rm.le (Nat.zero_le _)) hp3 ok.ok (q:=1) (by decide) (S3'.left.pick [4,2,3,5,6,7] rfl) ?_;intro h4 tk2 v1 hp4 X4;have S4:=S3'.ext X4;have Y4:=Y3.trans X4 nn;refine Xh (k:=60) [0,1,2,3] [4,5,6,7] [h.objs.size+2,h.objs.size+0] (Mn (W1 w) (W2 w) w.params h.objs.size tk h2.objs.size tk1 h4.objs.size tk2 s.x s.d s.l s.hk tp tr ttr (yW (upOf tr)) (cond (upOf tr) (tk+11) (tk+10)) (Xz 0 (upOf tr)) (dotS (s.dots 0)) v0 ⟨⟨rawRow 0 (s.dots 0) (upOf tr) false⟩⟩ ⟨⟨rawRow 0 (s.dots 0) (upOf tr) false⟩⟩ ⟨⟨Xr (eolOf (tr+0))⟩⟩ ⟨⟨(rawRow 0 (s.dots 0) (upOf tr) false++Xr (eolOf (tr+0)))⟩⟩ (Zv (eolOf (tr+0)) (tk1+3) (tk1+4) (tk1+5)) (cond (upOf tr) (tk1+14) (tk1+13)) (Xz 1 (upOf tr)) (dotS (s.dots 1)) v1 ⟨⟨rawRow 1 (s.dots 1) (upOf tr) false⟩⟩ ⟨⟨((rawRow 0 (s.dots 0) (upOf tr) false++Xr (eolOf (tr+0)))++rawRow 1 (s.dots 1) (upOf tr) false)⟩⟩ ⟨⟨Xr (eolOf (tr+1))⟩⟩ ⟨⟨(((rawRow 0 (s.dots 0) (upOf tr) false++Xr (eolOf (tr+0)))++rawRow 1 (s.dots 1) (upOf tr) false)++Xr (eolOf (tr+1)))⟩⟩ (Zv (eolOf (tr+1)) (tk2+4) (tk2+5) (tk2+6)) (cond (upOf tr) (tk2+15) (tk2+14)) (Xz 2 (upOf tr))).sg rfl (ob (YG (by decide) rfl) (ob JG (ob (XX (by decide)) (ob (XO (List.append_ne_nil_of_right_ne_nil _ (XJ _ _ _ _)) (Yc _) (by simp only [List.length_append,XC];have:=Xl (eolOf (tr+0));have:=Xl (eolOf (tr+1));have:=Xl (eolOf (tr+2));omega)) (ob JE (ob (XX (by decide)) (ob XH (ob (XO (List.append_ne_nil_of_right_ne_nil _ (Yc _)) (XJ _ _ _ _) (by simp only [List.length_append,XC];have:=Xl (eolOf (tr+0));have:=Xl (eolOf (tr+1));have:=Xl (eolOf (tr+2));omega)) (ob (XO (List.cons_ne_nil _ _) (YW l1) (by simp only [List.length_replicate,List.length_singleton];omega)) Xn))))))))) rm hp4 S4 rfl rfl (Xf (lm:=[(QC h),(CK h w tk s tp tr ttr false tk1 v0)]) [2,3] rfl rfl) st3.dd st3.kk ?_;intro h5 hp5 S5 X5 _ st5;have Y5:=Y4.new X5 fr;have S5':Has h5 ([(JY h),(CP h w tk s tp tr ttr false tk2 tk1 v1),(s.x,Xo s.d),(YC s w),(YP s),s.c0.cell,s.c1.cell,s.c2.cell]++[]):=S5;refine Yp (s:=s) (st5.rm.le (Nat.zero_le _)) hp5 ok.ok (q:=2) (by decide) (S5'.left.pick [4,2,3,5,6,7] rfl) ?_;intro h6 tk3 v2 hp6 X6;have S6:=S5'.ext X6;have Y6:=Y5.trans X6 nn;refine Xh (k:=60) [0,1] [2,3,4,5,6,7] [h.objs.size+2,h.objs.size+0] (Mm (W1 w) (W2 w) w.params h.objs.size tk h2.objs.size tk1 h4.objs.size tk2 h6.objs.size tk3 s.x s.d s.l s.hk tp tr ttr (yW (upOf tr)) (cond (upOf tr) (tk+11) (tk+10)) (Xz 0 (upOf tr)) (dotS (s.dots 0)) v0 ⟨⟨rawRow 0 (s.dots 0) (upOf tr) false⟩⟩ ⟨⟨rawRow 0 (s.dots 0) (upOf tr) false⟩⟩ ⟨⟨Xr (eolOf (tr+0))⟩⟩ ⟨⟨(rawRow 0 (s.dots 0) (upOf tr) false++Xr (eolOf (tr+0)))⟩⟩ (Zv (eolOf (tr+0)) (tk1+3) (tk1+4) (tk1+5)) (cond (upOf tr) (tk1+14) (tk1+13)) (Xz 1 (upOf tr)) (dotS (s.dots 1)) v1 ⟨⟨rawRow 1 (s.dots 1) (upOf tr) false⟩⟩ ⟨⟨((rawRow 0 (s.dots 0) (upOf tr) false++Xr (eolOf (tr+0)))++rawRow 1 (s.dots 1) (upOf tr) false)⟩⟩ ⟨⟨Xr (eolOf (tr+1))⟩⟩ ⟨⟨(((rawRow 0 (s.dots 0) (upOf tr) false++Xr (eolOf (tr+0)))++rawRow 1 (s.dots 1) (upOf tr) false)++Xr (eolOf (tr+1)))⟩⟩ (Zv (eolOf (tr+1)) (tk2+4) (tk2+5) (tk2+6)) (cond (upOf tr) (tk2+15) (tk2+14)) (Xz 2 (upOf tr)) (dotS (s.dots 2)) v2 ⟨⟨rawRow 2 (s.dots 2) (upOf tr) true⟩⟩ ⟨⟨((((rawRow 0 (s.dots 0) (upOf tr) false++Xr (eolOf (tr+0)))++rawRow 1 (s.dots 1) (upOf tr) false)++Xr (eolOf (tr+1)))++rawRow 2 (s.dots 2) (upOf tr) true)⟩⟩ ⟨⟨Xr (eolOf (tr+2))⟩⟩ ⟨⟨(((((rawRow 0 (s.dots 0) (upOf tr) false++Xr (eolOf (tr+0)))++rawRow 1 (s.dots 1) (upOf tr) false)++Xr (eolOf (tr+1)))++rawRow 2 (s.dots 2) (upOf tr) true)++Xr (eolOf (tr+2)))⟩⟩ (Zv (eolOf (tr+2)) (tk3+4) (tk3+5) (tk3+6))).sg rfl (ob (XO (List.append_ne_nil_of_right_ne_nil _ (XJ _ _ _ _)) (Yc _) (by simp only [List.length_append,XC];have:=Xl (eolOf (tr+0));have:=Xl (eolOf (tr+1));have:=Xl (eolOf (tr+2));omega)) (ob JE (ob (XX (by decide)) (ob XH (ob (XO (List.append_ne_nil_of_right_ne_nil _ (Yc _)) (XJ _ _ _ _) (by simp only [List.length_append,XC];have:=Xl (eolOf (tr+0));have:=Xl (eolOf (tr+1));have:=Xl (eolOf (tr+2));omega)) (ob (XO (YW l2) (List.cons_ne_nil _ _) (by simp only [List.length_replicate,List.length_singleton];omega)) Xn)))))) rm hp6 S6 rfl rfl (Xf (lm:=[(JY h),(CP h w tk s tp tr ttr false tk2 tk1 v1)]) [] rfl rfl) st5.dd st5.kk ?_;intro h7 hp7 S7 X7 _ st7;have Y7:=Y6.new X7 fr;have eT:(⟨⟨(((((rawRow 0 (s.dots 0) (upOf tr) false++Xr (eolOf (tr+0)))++rawRow 1 (s.dots 1) (upOf tr) false)++Xr (eolOf (tr+1)))++rawRow 2 (s.dots 2) (upOf tr) true)++Xr (eolOf (tr+2)))⟩⟩:Str)=Tm 2 (upOf tr) (eolOf tr) (s.dots 0) (s.dots 1) (s.dots 2):=by
  refine congrArg (fun l:List Nat=>(⟨⟨l⟩⟩:Str)) ?_;unfold yw;rw [ql,ZX,Int.add_zero];simp only [List.append_assoc,List.append_cancel_left_eq]
  rfl
 refine qg eT (st7.rm.le (by decide)) hp7 (ZY tr) (by decide) l0 l1 l2 hs ?_;intro h8 tk8 tz hp8 X8;have S7':Has h7 ([(JY h),(h.objs.size+0,frameO [XR w.params (tk+0) (.ref s.x),YS w.params (tk+1) (.int 2 tp),Yk w.params (tk+2) (.int tr ttr),Yj w.params (tk+4) (.str ⟨⟨(((((rawRow 0 (s.dots 0) (upOf tr) false++Xr (eolOf (tr+0)))++rawRow 1 (s.dots 1) (upOf tr) false)++Xr (eolOf (tr+1)))++rawRow 2 (s.dots 2) (upOf tr) true)++Xr (eolOf (tr+2)))⟩⟩ (tk3+10)),Yi w.params (tk+9) (.int 2 (tk2+12)),XW w.params (tk+15) (.str (Xz 2 (upOf tr)) (tk2+18)),YL w.params (tk1+0) (.str (dotS (s.dots 2)) v2),kn21 w.params (tk1+2) (.str ⟨⟨rawRow 2 (s.dots 2) (upOf tr) true⟩⟩ (tk3+1))] 8),(s.x,Xo s.d),(YC s w),(YP s),s.c0.cell,s.c1.cell,s.c2.cell]++[]):=S7;have S8:=S7'.ext X8;refine Xm (k:=100) [1] [0,2,3,4,5,6,7] [] (((Fv _ ..).2 ..).2 ..).sg rfl Xn rm hp8 S8 rfl rfl (Xf (lm:=[]) [0] rfl rfl) st7.dd st7.kk ?_;intro h9 hp9 S9 X9;exact Hn h9 _ tz hp9 ((Y7.trans X8 nn).trans X9 nn)
theorem Z8{R:Result->Shared->Prop}{h:Heap}{tk:Nat}{s:HS}{tr:Int}{p tp ttr:Nat}(rm:Room 100 A)(hpg:Prog (PP w) h)(ok:s.Ok2)(hp:p<3)(hs:s.dots 0+s.dots 1+s.dots 2<=7)(H:Has h (s.cells w.params)) (Hn:∀h' tk' tz,Prog (PP w) h'->Ext [] h h'->R (.ok (.ret (.str (mailS p (upOf tr) (s.dots 0) (s.dots 1) (s.dots 2)) tz))) ⟨h',g,dr,tk',os⟩): codeAny (model pw w) A (.call (.ref 227) ⟨[.ref s.x,.int (p:Nat) tp,.int tr ttr],[]⟩) R ⟨h,g,dr,tk,os⟩:=by
 match p,hp with
 | 0,_=>exact Mk rm hpg ok hs H Hn
 | 1,_=>exact Mj rm hpg ok hs H Hn
 | 2,_=>exact Mi rm hpg ok hs H Hn
end

section
variable(b1 b2:Bool)(P:Params)
def EU:List Nat:=dO 41 0x302040810004001020400100040800000000000c1820204100000800000001020204000
section
variable(n0 t0 n1 t1 n t:Nat)(dl ct:Addr)(c0 c1 c2:Int)(tc0 tc1 tc2 ec:Nat)(ds:List Value)(de:Nat)(a0 a1 a2 a3 a4:Value)(k:Nat)(vs:List Value)(ve:Nat)(pp:Int)(tp:Nat)(dk:Addr)(i j m:Int)(ti tj tm ed q0 q1 q2:Nat)(vi vj vm:Value)
abbrev Zl ct c0 tc0 c1 tc1 c2 tc2 ec:=((ct,listO [.int c0 tc0,.int c1 tc1,.int c2 tc2] ec):Xp)
def Td:Out:=
 let xc:Code:=.call (.ref 259) ⟨[.ref dl,.ref ct],[]⟩;ev (bS b1 b2 P n t) 82 EU [{v:=VR (n+2),al:=[listO [] 0]},{v:=Value.none,rd:=[3],w:=some (0,listO [VI c0 tc0,VI c1 tc1,VI c2 tc2] 1)}] xc (XQ xc) [] 0 [(Zl ct c0 tc0 c1 tc1 c2 tc2 ec)] 0 0 [] []
theorem NC:qW (Td b1 b2 P n t dl ct c0 c1 c2 tc0 tc1 tc2 ec) 8 5 [oB "list.__init__" [VR (n+2),VR ct] (t+1) (n+3) Value.none (rd:=[(ct,listO [VI c0 tc0,VI c1 tc1,VI c2 tc2] ec)]) (w:=some (n+2,listO [] 0,listO [VI c0 tc0,VI c1 tc1,VI c2 tc2] 1)),oB "list.__new__" [Value.type SZ.s9222952809800978799x4,VR ct] (t+1) (n+2) (VR (n+2)) (al:=[listO [] 0])] [0,1,2,3,5,6,7,8] ([(n+7,XA),(n+6,dctO [] 0),(n+5,listO [] 0),(n+4,rgO 0 3),(n+2,listO [.int c0 tc0,.int c1 tc1,.int c2 tc2] 1),(n+1,cellO (.ref dl)),(n+0,frameO [kn2 P (t+0) (.ref ct),yZ P (t+1) (.ref (n+2))] 2),(Zl ct c0 tc0 c1 tc1 c2 tc2 ec)]):=lO
def ET:Bool->List Nat
 | true=>dO 24 0x60400600183050000081081020408102000800200
 | false=>dO 30 0x18100180060c1400002042040810204080020008002000800204
def V1:Out:=let xc:=(Td b1 b2 P n0 t0 dl ct c0 c1 c2 tc0 tc1 tc2 ec).res.callee;ev (bS b1 b2 P n t) 54 (ET b2) [] xc (denF xc) [] 0 [(n0+7,XA),(n0+6,dctO [] 0),(n0+5,listO [] 0),(n0+4,rgO 0 3),(n0+1,cellO (.ref dl)),(dl,listO ds de)] 0 0 [] []
theorem NB:qW (V1 b1 b2 P n0 t0 n t dl ct c0 c1 c2 tc0 tc1 tc2 ec ds de) 3 1 [] [0,1,2,3,4,5,6,7,8] ([(n+2,dctO [] 0),(n+1,listO [] 0),(n+0,itO dl 0),(n0+7,cellO (.int 0 (t+0))),(n0+6,dctO [] 0),(n0+5,listO [] 0),(n0+4,rgO 1 2),(n0+1,cellO (.ref dl)),(dl,listO ds de)]):=lT
def L9:Bool->List Nat
 | true=>[2]
 | false=>dO 7 0x80800200081
def Sr:Out:=let xc:=(V1 b1 b2 P n0 t0 n1 t1 dl ct c0 c1 c2 tc0 tc1 tc2 ec ds de).res.callee;ev (bS b1 b2 P n t) 17 (L9 b2) [] xc (denF xc) [] 0 [(n1+0,itO dl 0)] 0 0 [] []
noncomputable def takG:Code:=(Sr b1 b2 P n0 t0 n1 t1 0 0 dl ct c0 c1 c2 tc0 tc1 tc2 ec ds de).res.code
abbrev takIS_ok:Prop:=SegE (Sr b1 b2 P n0 t0 n1 t1 n t dl ct c0 c1 c2 tc0 tc1 tc2 ec ds de) (.again) ((takG b1 b2 P n0 t0 n1 t1 dl ct c0 c1 c2 tc0 tc1 tc2 ec ds de)) 0 0 [] [0] ([(n1+0,itO dl 0)])
def B5:Bool->List Nat
 | true=>oC [[1,2,1],GX,dO 11 0x8105041c2850a14285]
 | false=>oC [[1,2,1],GX,dO 11 0x8105041c2850a14285]
abbrev ZL n0 pp tp:=((n0+7,cellO (.int pp tp)):Xp)
def HA:Out:=let xc:=(takG b1 b2 P n0 t0 n1 t1 dl ct c0 c1 c2 tc0 tc1 tc2 ec ds de);ev (bS b1 b2 P n t) 97 (B5 b2) [{v:=VR dk,rd:=[4],w:=some (0,itO dl (↑k+1))},{v:=Value.bool true},{v:=Value.none,w:=some (5,listO (vs++[VI i ti]) (ve+1))}] xc (denF xc) [] 0 [(n1+0,itO dl k),(n1+2,dctO [] 0),(n1+1,listO vs ve),(ZL n0 pp tp),(dl,listO ds de),(Yl dk i ti j tj m tm ed)] 0 0 [] []
abbrev takIA_T_ok:Prop:=SegE (HA b1 b2 P n0 t0 n1 t1 n t dl ct c0 c1 c2 tc0 tc1 tc2 ec ds de k vs ve pp tp dk i j m ti tj tm ed) (.again) ((takG b1 b2 P n0 t0 n1 t1 dl ct c0 c1 c2 tc0 tc1 tc2 ec ds de)) 3 3 [oB "list.append" [VR (n1+1),VI i ti] (t+3) (n+3) Value.none (w:=some (n1+1,listO vs ve,listO (vs++[VI i ti]) (ve+1))),oB "int.__eq__" [VI i ti,VI pp tp] (t+3) (n+3) (Value.bool true),oB "list_iterator.__next__" [VR (n1+0)] (t+0) (n+0) (VR dk) (rd:=[(dl,listO ds de)]) (w:=some (n1+0,itO dl ↑k,itO dl (↑k+1)))] [3,4,5,6,7,8] ([(n1+0,itO dl ((k:Int)+1)),(n1+2,dctO [kn5 P (t+0) (.int i ti),kn6 P (t+1) (.int j tj),kn7 P (t+2) (.int m tm)] 3),(n1+1,listO (vs++[.int i ti]) (ve+1)),(ZL n0 pp tp),(dl,listO ds de),(Yl dk i ti j tj m tm ed)])
def B6:Bool->List Nat
 | true=>oC [[1,2,1],GX,dO 9 0x2041c2850a14285]
 | false=>oC [[1,2,1],GX,dO 9 0x2041c2850a14285]
def HB:Out:=let xc:=(takG b1 b2 P n0 t0 n1 t1 dl ct c0 c1 c2 tc0 tc1 tc2 ec ds de);ev (bS b1 b2 P n t) 94 (B6 b2) [{v:=VR dk,rd:=[4],w:=some (0,itO dl (↑k+1))},{v:=Value.bool false}] xc (denF xc) [] 0 [(n1+0,itO dl k),(n1+2,dctO [] 0),(n1+1,listO vs ve),(ZL n0 pp tp),(dl,listO ds de),(Yl dk i ti j tj m tm ed)] 0 0 [] []
abbrev takIA_F_ok:Prop:=SegE (HB b1 b2 P n0 t0 n1 t1 n t dl ct c0 c1 c2 tc0 tc1 tc2 ec ds de k vs ve pp tp dk i j m ti tj tm ed) (.again) ((takG b1 b2 P n0 t0 n1 t1 dl ct c0 c1 c2 tc0 tc1 tc2 ec ds de)) 3 3 [oB "int.__eq__" [VI i ti,VI pp tp] (t+3) (n+3) (Value.bool false),oB "list_iterator.__next__" [VR (n1+0)] (t+0) (n+0) (VR dk) (rd:=[(dl,listO ds de)]) (w:=some (n1+0,itO dl ↑k,itO dl (↑k+1)))] [3,4,5,6,7,8] ([(n1+0,itO dl ((k:Int)+1)),(n1+2,dctO [kn5 P (t+0) (.int i ti),kn6 P (t+1) (.int j tj),kn7 P (t+2) (.int m tm)] 3),(n1+1,listO vs ve),(ZL n0 pp tp),(dl,listO ds de),(Yl dk i ti j tj m tm ed)])
def B3:Bool->List Nat
 | true=>oC [[1,2,1],GX,dO 11 0x8105041c2850a14285]
 | false=>oC [[1,2,1],GX,dO 11 0x8105041c2850a14285]
def Hy:Out:=let xc:=(takG b1 b2 P n0 t0 n1 t1 dl ct c0 c1 c2 tc0 tc1 tc2 ec ds de);ev (bS b1 b2 P n t) 97 (B3 b2) [{v:=VR dk,rd:=[4],w:=some (0,itO dl (↑k+1))},{v:=Value.bool true},{v:=Value.none,w:=some (5,listO (vs++[VI i ti]) (ve+1))}] xc (denF xc) [] 0 [(n1+0,itO dl k),(n1+2,dctO [kn5 P q0 vi,kn6 P q1 vj,kn7 P q2 vm] 3),(n1+1,listO vs ve),(ZL n0 pp tp),(dl,listO ds de),(Yl dk i ti j tj m tm ed)] 0 0 [] []
abbrev takIB_T_ok:Prop:=SegE (Hy b1 b2 P n0 t0 n1 t1 n t dl ct c0 c1 c2 tc0 tc1 tc2 ec ds de k vs ve pp tp dk i j m ti tj tm ed q0 q1 q2 vi vj vm) (.again) ((takG b1 b2 P n0 t0 n1 t1 dl ct c0 c1 c2 tc0 tc1 tc2 ec ds de)) 3 3 [oB "list.append" [VR (n1+1),VI i ti] (t+3) (n+3) Value.none (w:=some (n1+1,listO vs ve,listO (vs++[VI i ti]) (ve+1))),oB "int.__eq__" [VI i ti,VI pp tp] (t+3) (n+3) (Value.bool true),oB "list_iterator.__next__" [VR (n1+0)] (t+0) (n+0) (VR dk) (rd:=[(dl,listO ds de)]) (w:=some (n1+0,itO dl ↑k,itO dl (↑k+1)))] [3,4,5,6,7,8] ([(n1+0,itO dl ((k:Int)+1)),(n1+2,dctO [kn5 P q0 (.int i ti),kn6 P q1 (.int j tj),kn7 P q2 (.int m tm)] 3),(n1+1,listO (vs++[.int i ti]) (ve+1)),(ZL n0 pp tp),(dl,listO ds de),(Yl dk i ti j tj m tm ed)])
def B4:Bool->List Nat
 | true=>oC [[1,2,1],GX,dO 9 0x2041c2850a14285]
 | false=>oC [[1,2,1],GX,dO 9 0x2041c2850a14285]
def Hz:Out:=let xc:=(takG b1 b2 P n0 t0 n1 t1 dl ct c0 c1 c2 tc0 tc1 tc2 ec ds de);ev (bS b1 b2 P n t) 94 (B4 b2) [{v:=VR dk,rd:=[4],w:=some (0,itO dl (↑k+1))},{v:=Value.bool false}] xc (denF xc) [] 0 [(n1+0,itO dl k),(n1+2,dctO [kn5 P q0 vi,kn6 P q1 vj,kn7 P q2 vm] 3),(n1+1,listO vs ve),(ZL n0 pp tp),(dl,listO ds de),(Yl dk i ti j tj m tm ed)] 0 0 [] []
abbrev takIB_F_ok:Prop:=SegE (Hz b1 b2 P n0 t0 n1 t1 n t dl ct c0 c1 c2 tc0 tc1 tc2 ec ds de k vs ve pp tp dk i j m ti tj tm ed q0 q1 q2 vi vj vm) (.again) ((takG b1 b2 P n0 t0 n1 t1 dl ct c0 c1 c2 tc0 tc1 tc2 ec ds de)) 3 3 [oB "int.__eq__" [VI i ti,VI pp tp] (t+3) (n+3) (Value.bool false),oB "list_iterator.__next__" [VR (n1+0)] (t+0) (n+0) (VR dk) (rd:=[(dl,listO ds de)]) (w:=some (n1+0,itO dl ↑k,itO dl (↑k+1)))] [3,4,5,6,7,8] ([(n1+0,itO dl ((k:Int)+1)),(n1+2,dctO [kn5 P q0 (.int i ti),kn6 P q1 (.int j tj),kn7 P q2 (.int m tm)] 3),(n1+1,listO vs ve),(ZL n0 pp tp),(dl,listO ds de),(Yl dk i ti j tj m tm ed)])
def WK:Bool->List Nat
 | true=>dO 10 0x8102080810004001
 | false=>dO 10 0x8102080810004001
def DT:Out:=let xc:=(takG b1 b2 P n0 t0 n1 t1 dl ct c0 c1 c2 tc0 tc1 tc2 ec [a0,a1,a2,a3] de);ev (bS b1 b2 P n t) 22 (WK b2) [] xc (denF xc) [] 0 [(n1+0,itO dl 4),(dl,listO [a0,a1,a2,a3] de)] 0 0 [] []
abbrev takIE4_ok:Prop:=XD (DT b1 b2 P n0 t0 n1 t1 n t dl ct c0 c1 c2 tc0 tc1 tc2 ec de a0 a1 a2 a3) 2 0 [] [2,3] ([(n1+0,GY 4),(dl,listO [a0,a1,a2,a3] de)])
def WJ:Bool->List Nat
 | true=>dO 10 0x8102080810004001
 | false=>dO 10 0x8102080810004001
def DS:Out:=let xc:=(takG b1 b2 P n0 t0 n1 t1 dl ct c0 c1 c2 tc0 tc1 tc2 ec [a0,a1,a2,a3,a4] de);ev (bS b1 b2 P n t) 22 (WJ b2) [] xc (denF xc) [] 0 [(n1+0,itO dl 5),(dl,listO [a0,a1,a2,a3,a4] de)] 0 0 [] []
abbrev takIE5_ok:Prop:=XD (DS b1 b2 P n0 t0 n1 t1 n t dl ct c0 c1 c2 tc0 tc1 tc2 ec de a0 a1 a2 a3 a4) 2 0 [] [2,3] ([(n1+0,GY 5),(dl,listO [a0,a1,a2,a3,a4] de)])
end
end

section
variable(b1 b2:Bool)(P:Params)
def Rf:Bool->List Nat
 | true=>oC [HO,dO 6 0x1810020008]
 | false=>oC [HO,dO 6 0x1810020008]
section
variable(n0 t0 n1 t1 n2 t2 n3 t3 n t:Nat)(dl ct:Addr)(c0 c1 c2:Int)(tc0 tc1 tc2 ec:Nat)(ds:List Value)(de:Nat)(vs0:List Value)(ve0 p00 p01 p02:Nat)(w00 w01 w02:Value)(l0:Int)(vs1:List Value)(ve1 p10 p11 p12:Nat)(w10 w11 w12:Value)(l1:Int)(vs2:List Value)(ve2 p20 p21 p22:Nat)(w20 w21 w22:Value)(l2:Int)
def Su:Out:=let xr:=(V1 b1 b2 P n0 t0 n1 t1 dl ct c0 c1 c2 tc0 tc1 tc2 ec ds de).res;ev (bS b1 b2 P n t) 68 (Rf b2) [{v:=VI l0 (t+0+1),di:=2,rd:=[1]}] xr.c (xr.k (.ok .next)) xr.K xr.d [(n1+2,dctO [kn5 P p00 w00,kn6 P p01 w01,kn7 P p02 w02] 3),(n1+1,listO vs0 ve0),(n0+7,cellO (.int 0 (t1+0))),(n0+6,dctO [] 0),(n0+5,listO [] 0),(n0+4,rgO 1 2),(n0+1,cellO (.ref dl)),(dl,listO ds de)] 0 0 [] []
abbrev takC0_ok:Prop:=SegE (Su b1 b2 P n0 t0 n1 t1 n t dl ct c0 c1 c2 tc0 tc1 tc2 ec ds de vs0 ve0 p00 p01 p02 w00 w01 w02 l0) .stop ((V1 b1 b2 P n0 t0 n t dl ct c0 c1 c2 tc0 tc1 tc2 ec ds de).res.callee) 3 3 [oB "len" [VR (n1+1)] (t+0) (n+0) (VI l0 (t+0+1)) (di:=2) (rd:=[(n1+1,listO vs0 ve0)])] [0,1,2,5,6,7,8,9,10] ([(n+2,dctO [] 0),(n+1,listO [] 0),(n+0,itO dl 0),(n0+7,cellO (.int 1 (t+2))),(n0+6,dctO [] 0),(n0+5,listO [.int l0 (t+0+1)] 1),(n0+4,rgO 2 1),(n0+1,cellO (.ref dl)),(dl,listO ds de)])
def Rd:Bool->List Nat
 | true=>oC [HO,dO 6 0x1810020008]
 | false=>oC [HO,dO 6 0x1810020008]
def St:Out:=let xr:=(Su b1 b2 P n0 t0 n1 t1 n2 t2 dl ct c0 c1 c2 tc0 tc1 tc2 ec ds de vs0 ve0 p00 p01 p02 w00 w01 w02 l0).res;ev (bS b1 b2 P n t) 68 (Rd b2) [{v:=VI l1 (t+0+1),di:=2,rd:=[1]}] xr.c (xr.k (.ok .next)) xr.K xr.d [(n2+2,dctO [kn5 P p10 w10,kn6 P p11 w11,kn7 P p12 w12] 3),(n2+1,listO vs1 ve1),(n0+7,cellO (.int 1 (t2+2))),(n0+6,dctO [] 0),(n0+5,listO [.int l0 (t2+0+1)] 1),(n0+4,rgO 2 1),(n0+1,cellO (.ref dl)),(dl,listO ds de)] 0 0 [] []
abbrev takC1_ok:Prop:=SegE (St b1 b2 P n0 t0 n1 t1 n2 t2 n t dl ct c0 c1 c2 tc0 tc1 tc2 ec ds de vs0 ve0 p00 p01 p02 w00 w01 w02 l0 vs1 ve1 p10 p11 p12 w10 w11 w12 l1) .stop ((V1 b1 b2 P n0 t0 n t dl ct c0 c1 c2 tc0 tc1 tc2 ec ds de).res.callee) 3 3 [oB "len" [VR (n2+1)] (t+0) (n+0) (VI l1 (t+0+1)) (di:=2) (rd:=[(n2+1,listO vs1 ve1)])] [0,1,2,5,6,7,8,9,10] ([(n+2,dctO [] 0),(n+1,listO [] 0),(n+0,itO dl 0),(n0+7,cellO (.int 2 (t+2))),(n0+6,dctO [] 0),(n0+5,listO [.int l0 (t2+0+1),.int l1 (t+0+1)] 2),(n0+4,rgO 3 0),(n0+1,cellO (.ref dl)),(dl,listO ds de)])
def Rc:Bool->List Nat
 | true=>dO 25 0x10c183000c003000a142800a0010102040810204081
 | false=>dO 25 0x10c183000c003000a142800a0010102040810204081
def Cc:Out:=let xr:=(St b1 b2 P n0 t0 n1 t1 n2 t2 n3 t3 dl ct c0 c1 c2 tc0 tc1 tc2 ec ds de vs0 ve0 p00 p01 p02 w00 w01 w02 l0 vs1 ve1 p10 p11 p12 w10 w11 w12 l1).res;ev (bS b1 b2 P n t) 46 (Rc b2) [{v:=VI l2 (t+0+1),di:=2,rd:=[1]}] xr.c (xr.k (.ok .next)) xr.K xr.d [(n3+2,dctO [kn5 P p20 w20,kn6 P p21 w21,kn7 P p22 w22] 3),(n3+1,listO vs2 ve2),(n0+7,cellO (.int 2 (t3+2))),(n0+6,dctO [] 0),(n0+5,listO [.int l0 (t2+0+1),.int l1 (t3+0+1)] 2),(n0+4,rgO 3 0),(n0+1,cellO (.ref dl)),(dl,listO ds de)] 0 0 [] []
abbrev takC2_ok:Prop:=XD (Cc b1 b2 P n0 t0 n1 t1 n2 t2 n3 t3 n t dl ct c0 c1 c2 tc0 tc1 tc2 ec ds de vs0 ve0 p00 p01 p02 w00 w01 w02 l0 vs1 ve1 p10 p11 p12 w10 w11 w12 l1 vs2 ve2 p20 p21 p22 w20 w21 w22 l2) 2 2 [oB "len" [VR (n3+1)] (t+0) (n+0) (VI l2 (t+0+1)) (di:=2) (rd:=[(n3+1,listO vs2 ve2)])] [5,6,8,9] ([(n0+6,dctO [] 0),(n0+5,listO [.int l0 (t2+0+1),.int l1 (t3+0+1),.int l2 (t+0+1)] 3),(n0+1,cellO (.ref dl)),(dl,listO ds de)])
end
end

section
variable(b1 b2:Bool)(P:Params)
def Rb:List Nat:=dO 24 0x6040010004085020408102002800a14280000c102
section
variable(n0 t0 n1 t1 n t:Nat)(dl ct:Addr)(c0 c1 c2:Int)(tc0 tc1 tc2 ec k:Nat)(rs ts cs:List Value)(te ce q0:Nat)(dk:Addr)(i j m:Int)(ti tj tm ed:Nat)(ci xi xj:Int)(ui uxi uxj de:Nat)(a0 a1 a2 a3 a4:Addr)
def Tc:Out:=let xr:=(Td b1 b2 P n0 t0 dl ct c0 c1 c2 tc0 tc1 tc2 ec).res;ev (bS b1 b2 P n t) 51 Rb [] xr.c (xr.k (.ok .next)) xr.K xr.d [(n0+6,dctO [] 0),(n0+0,frameO [kn2 P (t0+0) (.ref ct),yZ P (t0+1) (.ref (n0+2))] 2),(n0+1,cellO (.ref dl)),(dl,listO [.ref a0,.ref a1,.ref a2,.ref a3] de)] 0 0 [] []
noncomputable def Ym:Code:=(Tc b1 b2 P n0 t0 n1 t1 dl ct c0 c1 c2 tc0 tc1 tc2 ec 0 0 0 0 0).res.callee
abbrev SY n0(P:Params) t0 ct t:=((n0+0,frameO [kn2 P (t0+0) (.ref ct),yZ P (t0+1) (.ref (n0+2)),Qo P (t+0) (.ref (n0+5))] 3):Xp)
theorem FB:SegL (Tc b1 b2 P n0 t0 n t dl ct c0 c1 c2 tc0 tc1 tc2 ec de a0 a1 a2 a3) (Ym b1 b2 P n0 t0 n t dl ct c0 c1 c2 tc0 tc1 tc2 ec) 3 3 [] [0,1,4,6] ([(n+2,itO (n+1) 0),(n+1,listO [.ref a3,.ref a2,.ref a1,.ref a0] 0),(SY n0 P t0 ct t),(dl,listO [.ref a0,.ref a1,.ref a2,.ref a3] de)]):=lO
def Ra:List Nat:=dO 24 0x6040010004085020408102002800a14280000c102
def Ss:Out:=let xr:=(Td b1 b2 P n0 t0 dl ct c0 c1 c2 tc0 tc1 tc2 ec).res;ev (bS b1 b2 P n t) 51 Ra [] xr.c (xr.k (.ok .next)) xr.K xr.d [(n0+6,dctO [] 0),(n0+0,frameO [kn2 P (t0+0) (.ref ct),yZ P (t0+1) (.ref (n0+2))] 2),(n0+1,cellO (.ref dl)),(dl,listO [.ref a0,.ref a1,.ref a2,.ref a3,.ref a4] de)] 0 0 [] []
abbrev takF5_ok:Prop:=SegE (Ss b1 b2 P n0 t0 n t dl ct c0 c1 c2 tc0 tc1 tc2 ec de a0 a1 a2 a3 a4) .stop (Ym b1 b2 P n0 t0 n t dl ct c0 c1 c2 tc0 tc1 tc2 ec) 3 3 [] [0,1,4,6] ([(n+2,itO (n+1) 0),(n+1,listO [.ref a4,.ref a3,.ref a2,.ref a1,.ref a0] 0),(SY n0 P t0 ct t),(dl,listO [.ref a0,.ref a1,.ref a2,.ref a3,.ref a4] de)])
def Nl:List Nat:=oC [[1,2,1],GX,dO 45 0x2041c3850a081070e1c28504183050a141020c183050a141020c183050a083870e142850a14285]
abbrev UH n1 k n0(P:Params) t0 ct q0 ts te cs ce rs dk i ti j tj m tm ed:=([(n1+2,itO (n1+1) k),(n0+0,frameO [kn2 P (t0+0) (.ref ct),yZ P (t0+1) (.ref (n0+2)),Qo P q0 (.ref (n0+5))] 3),(n0+2,listO ts te),(n0+5,listO cs ce),(n1+1,listO rs 0),(Yl dk i ti j tj m tm ed)]:ZQ)
def Ta:Out:=let xc:=(Ym b1 b2 P n0 t0 n1 t1 dl ct c0 c1 c2 tc0 tc1 tc2 ec);ev (bS b1 b2 P n t) 155 Nl [{v:=VR dk,rd:=[4],w:=some (0,itO (n1+1) (↑k+1))},{v:=VI ci ui,rd:=[6]},{v:=VI xi uxi,rd:=[5]},{v:=Value.bool true},{v:=VI xj uxj,rd:=[5]},{v:=Value.bool true},{v:=Value.none,w:=some (5,listO (ts.set j.toNat (VI m tm)) te)},{v:=VI ci ui,rd:=[6]},{v:=VI (ci - 1) (t+4),di:=1},{v:=Value.none,w:=some (6,listO (cs.set i.toNat (VI (ci - 1) (t+4))) ce)}] xc (denF xc) [] 0 (UH n1 k n0 P t0 ct q0 ts te cs ce rs dk i ti j tj m tm ed) 0 0 [] []
abbrev En n0(P:Params) t0 ct q0 t i ti j tj m tm:=((n0+0,frameO [kn2 P (t0+0) (.ref ct),yZ P (t0+1) (.ref (n0+2)),Qo P q0 (.ref (n0+5)),kn5 P (t+0) (.int i ti),kn6 P (t+1) (.int j tj),kn7 P (t+2) (.int m tm)] 6):Xp)
abbrev takTA_TT_ok:Prop:=SegE (Ta b1 b2 P n0 t0 n1 t1 n t dl ct c0 c1 c2 tc0 tc1 tc2 ec k rs ts cs te ce q0 dk i j m ti tj tm ed ci xi xj ui uxi uxj) (.again) ((Ym b1 b2 P n0 t0 n1 t1 dl ct c0 c1 c2 tc0 tc1 tc2 ec)) 3 5 [oB "list.__setitem__" [VR (n0+5),VI i ti,VI (ci - 1) (t+4)] (t+5) (n+3) Value.none (w:=some (n0+5,listO cs ce,listO (cs.set i.toNat (VI (ci - 1) (t+4))) ce)),oB "int.__sub__" [VI ci ui,VI 1 (t+3)] (t+4) (n+3) (VI (ci - 1) (t+4)) (di:=1),oB "list.__getitem__" [VR (n0+5),VI i ti] (t+3) (n+3) (VI ci ui) (rd:=[(n0+5,listO cs ce)]),oB "list.__setitem__" [VR (n0+2),VI j tj,VI m tm] (t+3) (n+3) Value.none (w:=some (n0+2,listO ts te,listO (ts.set j.toNat (VI m tm)) te)),oB "int.__gt__" [VI m tm,VI xj uxj] (t+3) (n+3) (Value.bool true),oB "list.__getitem__" [VR (n0+2),VI j tj] (t+3) (n+3) (VI xj uxj) (rd:=[(n0+2,listO ts te)]),oB "int.__le__" [VI ci ui,VI xi uxi] (t+3) (n+3) (Value.bool true),oB "list.__getitem__" [VR (n0+2),VI i ti] (t+3) (n+3) (VI xi uxi) (rd:=[(n0+2,listO ts te)]),oB "list.__getitem__" [VR (n0+5),VI i ti] (t+3) (n+3) (VI ci ui) (rd:=[(n0+5,listO cs ce)]),oB "list_iterator.__next__" [VR (n1+2)] (t+0) (n+0) (VR dk) (rd:=[(n1+1,listO rs 0)]) (w:=some (n1+2,itO (n1+1) ↑k,itO (n1+1) (↑k+1)))] [3,4,5,6,7,8] ([(n1+2,itO (n1+1) ((k:Int)+1)),(En n0 P t0 ct q0 t i ti j tj m tm),(n0+2,listO (ts.set j.toNat (.int m tm)) te),(n0+5,listO (cs.set i.toNat (.int (ci - 1) (t+4))) ce),(n1+1,listO rs 0),(Yl dk i ti j tj m tm ed)])
def Nm:List Nat:=oC [[1,2,1],GX,dO 39 0x81070e14282041c3870a141020c183050a141020c183050a083870e142850a14285]
def Tb:Out:=let xc:=(Ym b1 b2 P n0 t0 n1 t1 dl ct c0 c1 c2 tc0 tc1 tc2 ec);ev (bS b1 b2 P n t) 144 Nm [{v:=VR dk,rd:=[4],w:=some (0,itO (n1+1) (↑k+1))},{v:=VI ci ui,rd:=[6]},{v:=VI xi uxi,rd:=[5]},{v:=Value.bool true},{v:=VI xj uxj,rd:=[5]},{v:=Value.bool false},{v:=VI ci ui,rd:=[6]},{v:=VI (ci - 1) (t+4),di:=1},{v:=Value.none,w:=some (6,listO (cs.set i.toNat (VI (ci - 1) (t+4))) ce)}] xc (denF xc) [] 0 (UH n1 k n0 P t0 ct q0 ts te cs ce rs dk i ti j tj m tm ed) 0 0 [] []
abbrev takTA_TF_ok:Prop:=SegE (Tb b1 b2 P n0 t0 n1 t1 n t dl ct c0 c1 c2 tc0 tc1 tc2 ec k rs ts cs te ce q0 dk i j m ti tj tm ed ci xi xj ui uxi uxj) (.again) ((Ym b1 b2 P n0 t0 n1 t1 dl ct c0 c1 c2 tc0 tc1 tc2 ec)) 3 5 [oB "list.__setitem__" [VR (n0+5),VI i ti,VI (ci - 1) (t+4)] (t+5) (n+3) Value.none (w:=some (n0+5,listO cs ce,listO (cs.set i.toNat (VI (ci - 1) (t+4))) ce)),oB "int.__sub__" [VI ci ui,VI 1 (t+3)] (t+4) (n+3) (VI (ci - 1) (t+4)) (di:=1),oB "list.__getitem__" [VR (n0+5),VI i ti] (t+3) (n+3) (VI ci ui) (rd:=[(n0+5,listO cs ce)]),oB "int.__gt__" [VI m tm,VI xj uxj] (t+3) (n+3) (Value.bool false),oB "list.__getitem__" [VR (n0+2),VI j tj] (t+3) (n+3) (VI xj uxj) (rd:=[(n0+2,listO ts te)]),oB "int.__le__" [VI ci ui,VI xi uxi] (t+3) (n+3) (Value.bool true),oB "list.__getitem__" [VR (n0+2),VI i ti] (t+3) (n+3) (VI xi uxi) (rd:=[(n0+2,listO ts te)]),oB "list.__getitem__" [VR (n0+5),VI i ti] (t+3) (n+3) (VI ci ui) (rd:=[(n0+5,listO cs ce)]),oB "list_iterator.__next__" [VR (n1+2)] (t+0) (n+0) (VR dk) (rd:=[(n1+1,listO rs 0)]) (w:=some (n1+2,itO (n1+1) ↑k,itO (n1+1) (↑k+1)))] [3,4,5,6,7,8] ([(n1+2,itO (n1+1) ((k:Int)+1)),(En n0 P t0 ct q0 t i ti j tj m tm),(n0+2,listO ts te),(n0+5,listO (cs.set i.toNat (.int (ci - 1) (t+4))) ce),(n1+1,listO rs 0),(Yl dk i ti j tj m tm ed)])
end
def B2:List Nat:=oC [[1,2,1],GX,dO 31 0x81070e14282041c3870a141020c183050a083870e142850a14285]
def Hx(n0 t0 n1 t1 n t:Nat)(dl ct:Addr)(c0 c1 c2:Int)(tc0 tc1 tc2 ec:Nat)(k:Nat)(rs ts cs:List Value)(te ce:Nat)(q0:Nat)(dk:Addr)(i j m:Int)(ti tj tm ed:Nat)(ci xi xj:Int)(ui uxi uxj:Nat):Out:=let xc:=(Ym b1 b2 P n0 t0 n1 t1 dl ct c0 c1 c2 tc0 tc1 tc2 ec);ev (bS b1 b2 P n t) 130 B2 [{v:=VR dk,rd:=[4],w:=some (0,itO (n1+1) (↑k+1))},{v:=VI ci ui,rd:=[6]},{v:=VI xi uxi,rd:=[5]},{v:=Value.bool false},{v:=VI ci ui,rd:=[6]},{v:=VI (ci - 1) (t+4),di:=1},{v:=Value.none,w:=some (6,listO (cs.set i.toNat (VI (ci - 1) (t+4))) ce)}] xc (denF xc) [] 0 (UH n1 k n0 P t0 ct q0 ts te cs ce rs dk i ti j tj m tm ed) 0 0 [] []
section
variable(n0 t0 n1 t1 n t:Nat)(dl ct:Addr)(c0 c1 c2:Int)(tc0 tc1 tc2 ec k:Nat)(rs ts cs:List Value)(te ce q0:Nat)(dk:Addr)(i j m:Int)(ti tj tm ed:Nat)(ci xi xj:Int)(ui uxi uxj q1 q2 q3:Nat)(vi vj vm:Value)
abbrev takTA_F_s:Prop:=SegE (Hx b1 b2 P n0 t0 n1 t1 n t dl ct c0 c1 c2 tc0 tc1 tc2 ec k rs ts cs te ce q0 dk i j m ti tj tm ed ci xi xj ui uxi uxj) (.again) ((Ym b1 b2 P n0 t0 n1 t1 dl ct c0 c1 c2 tc0 tc1 tc2 ec)) 3 5 [oB "list.__setitem__" [VR (n0+5),VI i ti,VI (ci - 1) (t+4)] (t+5) (n+3) Value.none (w:=some (n0+5,listO cs ce,listO (cs.set i.toNat (VI (ci - 1) (t+4))) ce)),oB "int.__sub__" [VI ci ui,VI 1 (t+3)] (t+4) (n+3) (VI (ci - 1) (t+4)) (di:=1),oB "list.__getitem__" [VR (n0+5),VI i ti] (t+3) (n+3) (VI ci ui) (rd:=[(n0+5,listO cs ce)]),oB "int.__le__" [VI ci ui,VI xi uxi] (t+3) (n+3) (Value.bool false),oB "list.__getitem__" [VR (n0+2),VI i ti] (t+3) (n+3) (VI xi uxi) (rd:=[(n0+2,listO ts te)]),oB "list.__getitem__" [VR (n0+5),VI i ti] (t+3) (n+3) (VI ci ui) (rd:=[(n0+5,listO cs ce)]),oB "list_iterator.__next__" [VR (n1+2)] (t+0) (n+0) (VR dk) (rd:=[(n1+1,listO rs 0)]) (w:=some (n1+2,itO (n1+1) ↑k,itO (n1+1) (↑k+1)))] [3,4,5,6,7,8] ([(n1+2,itO (n1+1) ((k:Int)+1)),(En n0 P t0 ct q0 t i ti j tj m tm),(n0+2,listO ts te),(n0+5,listO (cs.set i.toNat (.int (ci - 1) (t+4))) ce),(n1+1,listO rs 0),(Yl dk i ti j tj m tm ed)])
def Nj:List Nat:=oC [[1,2,1],GX,dO 45 0x2041c3850a081070e1c28504183050a141020c183050a141020c183050a083870e142850a14285]
abbrev MS n0(P:Params) t0 ct q0 q1 vi q2 vj q3 vm:=((n0+0,frameO [kn2 P (t0+0) (.ref ct),yZ P (t0+1) (.ref (n0+2)),Qo P q0 (.ref (n0+5)),kn5 P q1 vi,kn6 P q2 vj,kn7 P q3 vm] 6):Xp)
def K8:Out:=let xc:=(Ym b1 b2 P n0 t0 n1 t1 dl ct c0 c1 c2 tc0 tc1 tc2 ec);ev (bS b1 b2 P n t) 155 Nj [{v:=VR dk,rd:=[4],w:=some (0,itO (n1+1) (↑k+1))},{v:=VI ci ui,rd:=[6]},{v:=VI xi uxi,rd:=[5]},{v:=Value.bool true},{v:=VI xj uxj,rd:=[5]},{v:=Value.bool true},{v:=Value.none,w:=some (5,listO (ts.set j.toNat (VI m tm)) te)},{v:=VI ci ui,rd:=[6]},{v:=VI (ci - 1) (t+4),di:=1},{v:=Value.none,w:=some (6,listO (cs.set i.toNat (VI (ci - 1) (t+4))) ce)}] xc (denF xc) [] 0 [(n1+2,itO (n1+1) k),(MS n0 P t0 ct q0 q1 vi q2 vj q3 vm),(n0+2,listO ts te),(n0+5,listO cs ce),(n1+1,listO rs 0),(Yl dk i ti j tj m tm ed)] 0 0 [] []
abbrev UD n0(P:Params) t0 ct q0 q1 i ti q2 j tj q3 m tm:=((n0+0,frameO [kn2 P (t0+0) (.ref ct),yZ P (t0+1) (.ref (n0+2)),Qo P q0 (.ref (n0+5)),kn5 P q1 (.int i ti),kn6 P q2 (.int j tj),kn7 P q3 (.int m tm)] 6):Xp)
abbrev takTB_TT_ok:Prop:=SegE (K8 b1 b2 P n0 t0 n1 t1 n t dl ct c0 c1 c2 tc0 tc1 tc2 ec k rs ts cs te ce q0 dk i j m ti tj tm ed ci xi xj ui uxi uxj q1 q2 q3 vi vj vm) (.again) ((Ym b1 b2 P n0 t0 n1 t1 dl ct c0 c1 c2 tc0 tc1 tc2 ec)) 3 5 [oB "list.__setitem__" [VR (n0+5),VI i ti,VI (ci - 1) (t+4)] (t+5) (n+3) Value.none (w:=some (n0+5,listO cs ce,listO (cs.set i.toNat (VI (ci - 1) (t+4))) ce)),oB "int.__sub__" [VI ci ui,VI 1 (t+3)] (t+4) (n+3) (VI (ci - 1) (t+4)) (di:=1),oB "list.__getitem__" [VR (n0+5),VI i ti] (t+3) (n+3) (VI ci ui) (rd:=[(n0+5,listO cs ce)]),oB "list.__setitem__" [VR (n0+2),VI j tj,VI m tm] (t+3) (n+3) Value.none (w:=some (n0+2,listO ts te,listO (ts.set j.toNat (VI m tm)) te)),oB "int.__gt__" [VI m tm,VI xj uxj] (t+3) (n+3) (Value.bool true),oB "list.__getitem__" [VR (n0+2),VI j tj] (t+3) (n+3) (VI xj uxj) (rd:=[(n0+2,listO ts te)]),oB "int.__le__" [VI ci ui,VI xi uxi] (t+3) (n+3) (Value.bool true),oB "list.__getitem__" [VR (n0+2),VI i ti] (t+3) (n+3) (VI xi uxi) (rd:=[(n0+2,listO ts te)]),oB "list.__getitem__" [VR (n0+5),VI i ti] (t+3) (n+3) (VI ci ui) (rd:=[(n0+5,listO cs ce)]),oB "list_iterator.__next__" [VR (n1+2)] (t+0) (n+0) (VR dk) (rd:=[(n1+1,listO rs 0)]) (w:=some (n1+2,itO (n1+1) ↑k,itO (n1+1) (↑k+1)))] [3,4,5,6,7,8] ([(n1+2,itO (n1+1) ((k:Int)+1)),(UD n0 P t0 ct q0 q1 i ti q2 j tj q3 m tm),(n0+2,listO (ts.set j.toNat (.int m tm)) te),(n0+5,listO (cs.set i.toNat (.int (ci - 1) (t+4))) ce),(n1+1,listO rs 0),(Yl dk i ti j tj m tm ed)])
def Nk:List Nat:=oC [[1,2,1],GX,dO 39 0x81070e14282041c3870a141020c183050a141020c183050a083870e142850a14285]
def K9:Out:=let xc:=(Ym b1 b2 P n0 t0 n1 t1 dl ct c0 c1 c2 tc0 tc1 tc2 ec);ev (bS b1 b2 P n t) 144 Nk [{v:=VR dk,rd:=[4],w:=some (0,itO (n1+1) (↑k+1))},{v:=VI ci ui,rd:=[6]},{v:=VI xi uxi,rd:=[5]},{v:=Value.bool true},{v:=VI xj uxj,rd:=[5]},{v:=Value.bool false},{v:=VI ci ui,rd:=[6]},{v:=VI (ci - 1) (t+4),di:=1},{v:=Value.none,w:=some (6,listO (cs.set i.toNat (VI (ci - 1) (t+4))) ce)}] xc (denF xc) [] 0 [(n1+2,itO (n1+1) k),(MS n0 P t0 ct q0 q1 vi q2 vj q3 vm),(n0+2,listO ts te),(n0+5,listO cs ce),(n1+1,listO rs 0),(Yl dk i ti j tj m tm ed)] 0 0 [] []
abbrev takTB_TF_ok:Prop:=SegE (K9 b1 b2 P n0 t0 n1 t1 n t dl ct c0 c1 c2 tc0 tc1 tc2 ec k rs ts cs te ce q0 dk i j m ti tj tm ed ci xi xj ui uxi uxj q1 q2 q3 vi vj vm) (.again) ((Ym b1 b2 P n0 t0 n1 t1 dl ct c0 c1 c2 tc0 tc1 tc2 ec)) 3 5 [oB "list.__setitem__" [VR (n0+5),VI i ti,VI (ci - 1) (t+4)] (t+5) (n+3) Value.none (w:=some (n0+5,listO cs ce,listO (cs.set i.toNat (VI (ci - 1) (t+4))) ce)),oB "int.__sub__" [VI ci ui,VI 1 (t+3)] (t+4) (n+3) (VI (ci - 1) (t+4)) (di:=1),oB "list.__getitem__" [VR (n0+5),VI i ti] (t+3) (n+3) (VI ci ui) (rd:=[(n0+5,listO cs ce)]),oB "int.__gt__" [VI m tm,VI xj uxj] (t+3) (n+3) (Value.bool false),oB "list.__getitem__" [VR (n0+2),VI j tj] (t+3) (n+3) (VI xj uxj) (rd:=[(n0+2,listO ts te)]),oB "int.__le__" [VI ci ui,VI xi uxi] (t+3) (n+3) (Value.bool true),oB "list.__getitem__" [VR (n0+2),VI i ti] (t+3) (n+3) (VI xi uxi) (rd:=[(n0+2,listO ts te)]),oB "list.__getitem__" [VR (n0+5),VI i ti] (t+3) (n+3) (VI ci ui) (rd:=[(n0+5,listO cs ce)]),oB "list_iterator.__next__" [VR (n1+2)] (t+0) (n+0) (VR dk) (rd:=[(n1+1,listO rs 0)]) (w:=some (n1+2,itO (n1+1) ↑k,itO (n1+1) (↑k+1)))] [3,4,5,6,7,8] ([(n1+2,itO (n1+1) ((k:Int)+1)),(UD n0 P t0 ct q0 q1 i ti q2 j tj q3 m tm),(n0+2,listO ts te),(n0+5,listO (cs.set i.toNat (.int (ci - 1) (t+4))) ce),(n1+1,listO rs 0),(Yl dk i ti j tj m tm ed)])
end
def B0:List Nat:=oC [[1,2,1],GX,dO 31 0x81070e14282041c3870a141020c183050a083870e142850a14285]
def Hv(n0 t0 n1 t1 n t:Nat)(dl ct:Addr)(c0 c1 c2:Int)(tc0 tc1 tc2 ec:Nat)(k:Nat)(rs ts cs:List Value)(te ce:Nat)(q0:Nat)(dk:Addr)(i j m:Int)(ti tj tm ed:Nat)(ci xi xj:Int)(ui uxi uxj:Nat)(q1 q2 q3:Nat)(vi vj vm:Value):Out:=let xc:=(Ym b1 b2 P n0 t0 n1 t1 dl ct c0 c1 c2 tc0 tc1 tc2 ec);ev (bS b1 b2 P n t) 130 B0 [{v:=VR dk,rd:=[4],w:=some (0,itO (n1+1) (↑k+1))},{v:=VI ci ui,rd:=[6]},{v:=VI xi uxi,rd:=[5]},{v:=Value.bool false},{v:=VI ci ui,rd:=[6]},{v:=VI (ci - 1) (t+4),di:=1},{v:=Value.none,w:=some (6,listO (cs.set i.toNat (VI (ci - 1) (t+4))) ce)}] xc (denF xc) [] 0 [(n1+2,itO (n1+1) k),(MS n0 P t0 ct q0 q1 vi q2 vj q3 vm),(n0+2,listO ts te),(n0+5,listO cs ce),(n1+1,listO rs 0),(Yl dk i ti j tj m tm ed)] 0 0 [] []
section
variable(n0 t0 n1 t1 n t:Nat)(dl ct:Addr)(c0 c1 c2:Int)(tc0 tc1 tc2 ec:Nat)(a0 a1 a2 a3 a4:Value)(k:Nat)(rs ts cs:List Value)(te ce q0:Nat)(dk:Addr)(i j m:Int)(ti tj tm ed:Nat)(ci xi xj:Int)(ui uxi uxj q1 q2 q3:Nat)(vi vj vm:Value)
abbrev takTB_F_s:Prop:=SegE (Hv b1 b2 P n0 t0 n1 t1 n t dl ct c0 c1 c2 tc0 tc1 tc2 ec k rs ts cs te ce q0 dk i j m ti tj tm ed ci xi xj ui uxi uxj q1 q2 q3 vi vj vm) (.again) ((Ym b1 b2 P n0 t0 n1 t1 dl ct c0 c1 c2 tc0 tc1 tc2 ec)) 3 5 [oB "list.__setitem__" [VR (n0+5),VI i ti,VI (ci - 1) (t+4)] (t+5) (n+3) Value.none (w:=some (n0+5,listO cs ce,listO (cs.set i.toNat (VI (ci - 1) (t+4))) ce)),oB "int.__sub__" [VI ci ui,VI 1 (t+3)] (t+4) (n+3) (VI (ci - 1) (t+4)) (di:=1),oB "list.__getitem__" [VR (n0+5),VI i ti] (t+3) (n+3) (VI ci ui) (rd:=[(n0+5,listO cs ce)]),oB "int.__le__" [VI ci ui,VI xi uxi] (t+3) (n+3) (Value.bool false),oB "list.__getitem__" [VR (n0+2),VI i ti] (t+3) (n+3) (VI xi uxi) (rd:=[(n0+2,listO ts te)]),oB "list.__getitem__" [VR (n0+5),VI i ti] (t+3) (n+3) (VI ci ui) (rd:=[(n0+5,listO cs ce)]),oB "list_iterator.__next__" [VR (n1+2)] (t+0) (n+0) (VR dk) (rd:=[(n1+1,listO rs 0)]) (w:=some (n1+2,itO (n1+1) ↑k,itO (n1+1) (↑k+1)))] [3,4,5,6,7,8] ([(n1+2,itO (n1+1) ((k:Int)+1)),(UD n0 P t0 ct q0 q1 i ti q2 j tj q3 m tm),(n0+2,listO ts te),(n0+5,listO (cs.set i.toNat (.int (ci - 1) (t+4))) ce),(n1+1,listO rs 0),(Yl dk i ti j tj m tm ed)])
def L6:List Nat:=dO 11 0x8102080810004001
def A9:Out:=let xc:=(Ym b1 b2 P n0 t0 n1 t1 dl ct c0 c1 c2 tc0 tc1 tc2 ec);ev (bS b1 b2 P n t) 23 L6 [] xc (denF xc) [] 0 [(n1+2,itO (n1+1) 4),(n1+1,listO [a0,a1,a2,a3] 0)] 0 0 [] []
abbrev takX4_ok:Prop:=XD (A9 b1 b2 P n0 t0 n1 t1 n t dl ct c0 c1 c2 tc0 tc1 tc2 ec a0 a1 a2 a3) 2 0 [] [2,3] ([(n1+2,GY 4),(n1+1,listO [a0,a1,a2,a3] 0)])
def L5:List Nat:=dO 11 0x8102080810004001
def A8:Out:=let xc:=(Ym b1 b2 P n0 t0 n1 t1 dl ct c0 c1 c2 tc0 tc1 tc2 ec);ev (bS b1 b2 P n t) 23 L5 [] xc (denF xc) [] 0 [(n1+2,itO (n1+1) 5),(n1+1,listO [a0,a1,a2,a3,a4] 0)] 0 0 [] []
abbrev takX5_ok:Prop:=XD (A8 b1 b2 P n0 t0 n1 t1 n t dl ct c0 c1 c2 tc0 tc1 tc2 ec a0 a1 a2 a3 a4) 2 0 [] [2,3] ([(n1+2,GY 5),(n1+1,listO [a0,a1,a2,a3,a4] 0)])
end
def L8:List Nat:=[1]
section
variable(n0 t0 n1 t1 n t:Nat)(dl ct:Addr)(c0 c1 c2:Int)(tc0 tc1 tc2 ec de:Nat)(a0 a1 a2 a3 a4:Addr)(q0 q1 q2 q3:Nat)(vi vj vm:Value)
def Cb:Out:=let xr:=(Tc b1 b2 P n0 t0 n1 t1 dl ct c0 c1 c2 tc0 tc1 tc2 ec de a0 a1 a2 a3).res;ev (bS b1 b2 P n t) 9 L8 [] xr.c (xr.k (.ok .next)) xr.K xr.d [(MS n0 P t0 ct q0 q1 vi q2 vj q3 vm)] 0 0 [] []
abbrev takR4_ok:Prop:=SegE (Cb b1 b2 P n0 t0 n1 t1 n t dl ct c0 c1 c2 tc0 tc1 tc2 ec de a0 a1 a2 a3 q0 q1 q2 q3 vi vj vm) (.flow (.ret (.ref (n0+2)))) (.call .none {}) 0 0 [] [0] ([(MS n0 P t0 ct q0 q1 vi q2 vj q3 vm)])
def L7:List Nat:=[1]
def Ca:Out:=let xr:=(Ss b1 b2 P n0 t0 n1 t1 dl ct c0 c1 c2 tc0 tc1 tc2 ec de a0 a1 a2 a3 a4).res;ev (bS b1 b2 P n t) 9 L7 [] xr.c (xr.k (.ok .next)) xr.K xr.d [(MS n0 P t0 ct q0 q1 vi q2 vj q3 vm)] 0 0 [] []
abbrev takR5_ok:Prop:=SegE (Ca b1 b2 P n0 t0 n1 t1 n t dl ct c0 c1 c2 tc0 tc1 tc2 ec de a0 a1 a2 a3 a4 q0 q1 q2 q3 vi vj vm) (.flow (.ret (.ref (n0+2)))) (.call .none {}) 0 0 [] [0] ([(MS n0 P t0 ct q0 q1 vi q2 vj q3 vm)])
end
abbrev ttak1(a b l m:Nat)(c d:Addr)(e f g:Int)(h i j k:Nat)(n:List Value)(o:Nat):Prop:=∀p q r s t u v w x y z A B C D,takIA_T_ok b1 b2 P a b l m p q c d e f g h i j k n o r s t u v w x y z A B C D
abbrev ttak2(a b l m:Nat)(c d:Addr)(e f g:Int)(h i j k:Nat)(n:List Value)(o:Nat):Prop:=∀p q r s t u v w x y z A B C D,takIA_F_ok b1 b2 P a b l m p q c d e f g h i j k n o r s t u v w x y z A B C D
abbrev ttak3(a b l m:Nat)(c d:Addr)(e f g:Int)(h i j k:Nat)(n:List Value)(o:Nat):Prop:=∀p q r s t u v w x y z A B C D E F G H I J,takIB_T_ok b1 b2 P a b l m p q c d e f g h i j k n o r s t u v w x y z A B C D E F G H I J
abbrev ttak4(a b l m:Nat)(c d:Addr)(e f g:Int)(h i j k:Nat)(n:List Value)(o:Nat):Prop:=∀p q r s t u v w x y z A B C D E F G H I J,takIB_F_ok b1 b2 P a b l m p q c d e f g h i j k n o r s t u v w x y z A B C D E F G H I J
abbrev ttak5(a b l m:Nat)(c d:Addr)(e f g:Int)(h i j k:Nat)(n:List Value)(o:Nat):Prop:=∀p q r s t u v w x y z,takC0_ok b1 b2 P a b l m p q c d e f g h i j k n o r s t u v w x y z/\∀A B C D E F G H I J K,takC1_ok b1 b2 P a b l m p q A B c d e f g h i j k n o r s t u v w x y z C D E F G H I J K/\∀L M N O Q R S T U V W,takC2_ok b1 b2 P a b l m p q A B L M c d e f g h i j k n o r s t u v w x y z C D E F G H I J K N O Q R S T U V W
abbrev Sk(a b:Nat)(c d:Addr)(e f g:Int)(h i j k:Nat):Prop:=∀l m n o,(∀p q,takIS_ok b1 b2 P a b l m p q c d e f g h i j k n o)/\(ttak1 b1 b2 P a b l m c d e f g h i j k n o/\ttak2 b1 b2 P a b l m c d e f g h i j k n o/\ttak3 b1 b2 P a b l m c d e f g h i j k n o/\ttak4 b1 b2 P a b l m c d e f g h i j k n o)/\ttak5 b1 b2 P a b l m c d e f g h i j k n o
abbrev AN(a b:Nat)(c d:Addr)(e f g:Int)(h i j k:Nat):Prop:=∀l m n o p q r s t,takIE4_ok b1 b2 P a b l m n o c d e f g h i j k p q r s t
abbrev AM(a b:Nat)(c d:Addr)(e f g:Int)(h i j k:Nat):Prop:=∀l m n o p q r s t u,takIE5_ok b1 b2 P a b l m n o c d e f g h i j k p q r s t u
abbrev AK(a b:Nat)(c d:Addr)(e f g:Int)(h i j k:Nat):Prop:=∀l m n o p q r s,takF5_ok b1 b2 P a b l m c d e f g h i j k n o p q r s/\∀t u v w x y z A B,takR5_ok b1 b2 P a b l m t u c d e f g h i j k n o p q r s v w x y z A B
abbrev ttak10(a b l m:Nat)(c d:Addr)(e f g:Int)(h i j k:Nat):Prop:=∀n o p q r s t u v w x y z A B C D E F G H I J,takTA_TT_ok b1 b2 P a b l m n o c d e f g h i j k p q r s t u v w x y z A B C D E F G H I J
abbrev ttak11(a b l m:Nat)(c d:Addr)(e f g:Int)(h i j k:Nat):Prop:=∀n o p q r s t u v w x y z A B C D E F G H I J,takTA_TF_ok b1 b2 P a b l m n o c d e f g h i j k p q r s t u v w x y z A B C D E F G H I J
abbrev ttak12(a b l m:Nat)(c d:Addr)(e f g:Int)(h i j k:Nat):Prop:=∀n o p q r s t u v w x y z A B C D E F G H I J,takTA_F_s b1 b2 P a b l m n o c d e f g h i j k p q r s t u v w x y z A B C D E F G H I J
abbrev ttak13(a b l m:Nat)(c d:Addr)(e f g:Int)(h i j k:Nat):Prop:=∀n o p q r s t u v w x y z A B C D E F G H I J K L M N O Q,takTB_TT_ok b1 b2 P a b l m n o c d e f g h i j k p q r s t u v w x y z A B C D E F G H I J K L M N O Q
abbrev ttak14(a b l m:Nat)(c d:Addr)(e f g:Int)(h i j k:Nat):Prop:=∀n o p q r s t u v w x y z A B C D E F G H I J K L M N O Q,takTB_TF_ok b1 b2 P a b l m n o c d e f g h i j k p q r s t u v w x y z A B C D E F G H I J K L M N O Q
abbrev ttak15(a b l m:Nat)(c d:Addr)(e f g:Int)(h i j k:Nat):Prop:=∀n o p q r s t u v w x y z A B C D E F G H I J K L M N O Q,takTB_F_s b1 b2 P a b l m n o c d e f g h i j k p q r s t u v w x y z A B C D E F G H I J K L M N O Q
abbrev ttak16(a b l m:Nat)(c d:Addr)(e f g:Int)(h i j k:Nat):Prop:=∀n o p q r s,takX4_ok b1 b2 P a b l m n o c d e f g h i j k p q r s
abbrev ttak17(a b l m:Nat)(c d:Addr)(e f g:Int)(h i j k:Nat):Prop:=∀n o p q r s t,takX5_ok b1 b2 P a b l m n o c d e f g h i j k p q r s t
abbrev Sj(a b:Nat)(c d:Addr)(e f g:Int)(h i j k:Nat):Prop:=∀l m,ttak10 b1 b2 P a b l m c d e f g h i j k/\ttak11 b1 b2 P a b l m c d e f g h i j k/\ttak12 b1 b2 P a b l m c d e f g h i j k/\ttak13 b1 b2 P a b l m c d e f g h i j k/\ttak14 b1 b2 P a b l m c d e f g h i j k/\ttak15 b1 b2 P a b l m c d e f g h i j k/\ttak16 b1 b2 P a b l m c d e f g h i j k/\ttak17 b1 b2 P a b l m c d e f g h i j k
abbrev DP(a b:Nat)(c d:Addr)(e f g:Int)(h i j k:Nat):Prop:=∀l m n o p q r s t u v w x y z A,takR4_ok b1 b2 P a b l m n o c d e f g h i j k p q r s t u v w x y z A
theorem yA(a b:Nat)(c d:Addr)(e f g:Int)(h i j k:Nat):Sk b1 b2 P a b c d e f g h i j k/\AN b1 b2 P a b c d e f g h i j k/\AM b1 b2 P a b c d e f g h i j k/\AK b1 b2 P a b c d e f g h i j k/\Sj b1 b2 P a b c d e f g h i j k/\DP b1 b2 P a b c d e f g h i j k:=
 ⟨fun _ _ _ _=>⟨fun _ _=>gT,⟨fun _ _ _ _ _ _ _ _ _ _ _ _ _ _ _=>gT,fun _ _ _ _ _ _ _ _ _ _ _ _ _ _ _=>gT,fun _ _ _ _ _ _ _ _ _ _ _ _ _ _ _ _ _ _ _ _ _=>gT,fun _ _ _ _ _ _ _ _ _ _ _ _ _ _ _ _ _ _ _ _ _=>gT⟩,fun _ _ _ _ _ _ _ _ _ _ _=>⟨gT,fun _ _ _ _ _ _ _ _ _ _ _=>⟨gT,fun _ _ _ _ _ _ _ _ _ _ _=>gT⟩⟩⟩,fun _ _ _ _ _ _ _ _ _=>gT,fun _ _ _ _ _ _ _ _ _ _=>gT,fun _ _ _ _ _ _ _ _=>⟨gO,fun _ _ _ _ _ _ _ _ _=>gO⟩,fun _ _=>⟨fun _ _ _ _ _ _ _ _ _ _ _ _ _ _ _ _ _ _ _ _ _ _ _=>gO,fun _ _ _ _ _ _ _ _ _ _ _ _ _ _ _ _ _ _ _ _ _ _ _=>gO,fun _ _ _ _ _ _ _ _ _ _ _ _ _ _ _ _ _ _ _ _ _ _ _=>gO,fun _ _ _ _ _ _ _ _ _ _ _ _ _ _ _ _ _ _ _ _ _ _ _ _ _ _ _ _ _=>gO,fun _ _ _ _ _ _ _ _ _ _ _ _ _ _ _ _ _ _ _ _ _ _ _ _ _ _ _ _ _=>gO,fun _ _ _ _ _ _ _ _ _ _ _ _ _ _ _ _ _ _ _ _ _ _ _ _ _ _ _ _ _=>gO,fun _ _ _ _ _ _=>gO,fun _ _ _ _ _ _ _=>gO⟩,fun _ _ _ _ _ _ _ _ _ _ _ _ _ _ _ _=>gO⟩
section
variable(a b l m:Nat)(c d:Addr)(e f g:Int)(h i j k:Nat)(n:List Value)(o:Nat)
theorem QK:Sk b1 b2 P a b c d e f g h i j k:=(yA ..).1
theorem UM:ttak5 b1 b2 P a b l m c d e f g h i j k n o:=(QK _ ..).2.2
theorem qQ:Sj b1 b2 P a b c d e f g h i j k:=(yA ..).2.2.2.2.1
end
section
variable(n0 t0 n1 t1 n t:Nat)(dl ct:Addr)(c0 c1 c2:Int)(tc0 tc1 tc2 ec k:Nat)(rs ts cs:List Value)(te ce q0:Nat)(dk:Addr)(i j m:Int)(ti tj tm ed:Nat)(ci xi xj:Int)(ui uxi uxj q1 q2 q3:Nat)(vi vj vm:Value)
theorem G4:takTA_F_s b1 b2 P n0 t0 n1 t1 n t dl ct c0 c1 c2 tc0 tc1 tc2 ec k rs ts cs te ce q0 dk i j m ti tj tm ed ci xi xj ui uxi uxj:=((qQ _ ..).2.2.1 _ ..)
theorem G3:takTB_F_s b1 b2 P n0 t0 n1 t1 n t dl ct c0 c1 c2 tc0 tc1 tc2 ec k rs ts cs te ce q0 dk i j m ti tj tm ed ci xi xj ui uxi uxj q1 q2 q3 vi vj vm:=((qQ _ ..).2.2.2.2.2.1 _ ..)
end
end

theorem Ints.tail{vs:List Value}{x:Int}{xs:List Int}(h:Ints vs (x::xs)):∃t ws,vs=.int x t::ws/\Ints ws xs:=by
 cases vs with
 | nil=>
  obtain ⟨t,ht⟩:=h.at' 0 x rfl;cases ht
 | cons v ws=>
  obtain ⟨t,ht⟩:=h.at' 0 x rfl;cases ht;exact ⟨t,ws,rfl,⟨by have:=h.len;simpa using this,fun i y hy=>h.at' (i+1) y hy⟩⟩
theorem Ints.one{a:Int}{x:Nat}:Ints [.int a x] [a]:=⟨rfl,fun i y h=>by
 match i with
 | 0=>cases h;exact ⟨_,rfl⟩
 | i+1=>cases h⟩
theorem Ints.push{a:Int}{x:Nat}{vs:List Value}{xs:List Int}(h:Ints vs xs):Ints (.int a x::vs) (a::xs):=⟨by rw [List.length_cons,List.length_cons,h.len],fun i y hy=>by
 cases i with
 | zero=>cases hy;exact ⟨_,rfl⟩
 | succ i=>exact h.at' i y hy⟩
section
variable{prog:Program}{w:World}{A:Around}{R:Result->Shared->Prop}
theorem Qh{I S l:Addr}(hSI:S≠I)(hSl:S≠l)(hIl:l≠I){vs:Array Value}{s0:Shared}(hh:A.handled=none):
  ∀(todo:List Int) (us:List Value) (i:Nat) (h:Heap) (tA c:Nat) (acc:Int),Ints us todo->vs.toList.drop i=us->h.IsListIter I l i->h.IsList l vs->h.get? S=some {cls:=.type "list",dict:=none,data:=.seq #[.int acc tA,.int acc tA] c,slots:=#[]}->
   (∀h' t',(∀b o,b≠I->b≠S->h.get? b=some o->h'.get? b=some o)->(∃o,h'.get? S=some o)->R (.ok (.ret (.int (todo.foldl (fun a b=>if b>a then b else a) acc) t'))) {s0 with heap:=h'})-> codeAny (model prog w) A (.builtin "max.loop" ⟨[.ref I,.none,.ref S],[]⟩) R {s0 with heap:=h}
 | [],us,i,h,tA,c,acc,hu,hd,hI,hl,hS,hR=>by
  have hn:us=[]:=List.length_eq_zero_iff.mp hu.len;subst hn;have hx:vs[i]? =none:=by
   have:vs.toList.length<=i:=List.drop_eq_nil_iff.mp hd;rw [Array.getElem?_eq_none_iff];simpa using this
  refine codeAny_builtin F.entry_max_loop ?_;rw [Around.under_plainId F.plain_max_loop _];show wpAny _ A.in1 (seqItems? (.ref S) >>= _) _ _ _;refine wpAny_bind (wpAny_seqItems hS rfl ?_);show wpAny _ A.in1 (tryCatch (pyNext (.ref I)) _ >>= _) _ _ _;refine wpAny_bind (wpAny_tryCatch (wpAny_pyNext_list_end hh hI hl hx fun h' he=>?_));have hS':=he S _ hSI hS;show wpAny _ A.in1 (updateSeq S (fun _=>#[]) >>= _) _ _ _;refine wpAny_bind (wpAny_updateSeq hS' rfl (wpAny_bind (wpAny_letGo (wpAny_pure ?_))));exact hR _ tA (fun b o hb hbS e=>(Heap.get?_update_other _ _ (Ne.symm hbS)).trans (he b o hb e)) ⟨_,Heap.get?_update_self _ hS' rfl⟩
 | y::todo,us,i,h,tA,c,acc,hu,hd,hI,hl,hS,hR=>by
  have hname:(toString "max"++toString ".loop":String)="max.loop":=by decide
  obtain ⟨t,ws,rfl,hw⟩:=hu.tail;have hlt:i<vs.toList.length:=Nat.lt_of_not_le fun hle=>by rw [List.drop_eq_nil_of_le hle] at hd;cases hd
  have hc:vs.toList[i]=.int y t/\vs.toList.drop (i+1)=ws:=by
   rw [List.drop_eq_getElem_cons hlt] at hd;injection hd with h1 h2
   exact ⟨h1,h2⟩
  have hx:vs[i]? =some (.int y t):=by
   rw [←Array.getElem?_toList,List.getElem?_eq_getElem hlt,hc.1]
  refine codeAny_builtin F.entry_max_loop ?_;rw [Around.under_plainId F.plain_max_loop _];show wpAny _ A.in1 (seqItems? (.ref S) >>= _) _ _ _;refine wpAny_bind (wpAny_seqItems hS rfl ?_);show wpAny _ A.in1 (tryCatch (pyNext (.ref I)) _ >>= _) _ _ _;refine wpAny_bind (wpAny_tryCatch (wpAny_pyNext_list_item hI hl hx fun h' hi' hs'=>?_));have hS':h'.get? S=some _:=(hs'.2 S hSI).trans hS;have next:∀(h2:Heap) (tA2 c2:Nat) (acc2:Int),acc2=(if y>acc then y else acc)->(∀b,b≠S->h2.get? b=h'.get? b)->h2.get? S=some {cls:=.type "list",dict:=none,data:=.seq #[.int acc2 tA2,.int acc2 tA2] c2,slots:=#[]}-> codeAny (model prog w) A (.builtin "max.loop" ⟨[.ref I,.none,.ref S],[]⟩) R {s0 with heap:=h2}:=by
   intro h2 tA2 c2 acc2 q0 q2 q3;refine Qh hSI hSl hIl hh todo ws (i+1) h2 tA2 c2 acc2 hw hc.2 (hi'.at fun o e=>by rw [q2 I (Ne.symm hSI)];exact e) (hl.at fun o e=>by rw [q2 l (Ne.symm hSl),hs'.2 l hIl];exact e) q3 ?_;intro h3 t3 k3 e3;subst q0;exact hR h3 t3 (fun b o b1 b2 e=>k3 b o b1 b2 (by rw [q2 b b2,hs'.2 b b1];exact e)) e3
  show wpAny _ A.in1 (tryCatch (holding [.int y t,.int y t] (richCompare .Gt (.int y t) (.int acc tA) >>= _)) _ >>= _) _ _ _;refine wpAny_bind (wpAny_tryCatch (wpAny_holding (wpAny_bind (richCompare_gives (typeIs_int _ y t) (typeIs_int _ acc tA) F.slot_int_gt F.entry_int_gt (F.args_int_gt_2 _ _) (gives_int_gt y acc t tA) (fun x=>nomatch x) ?_))));refine wpAny_bind (wpAny_holding (wpAny_truthy_bool ?_));refine wpAny_bind (wpAny_letGo (wpAny_pure ?_))
  by_cases hb:y>acc
  ·rw [decide_eq_true hb];simp only [if_true];refine wpAny_bind (wpAny_updateSeq hS' rfl (wpAny_bind (wpAny_letGo ?_)));rw [hname];exact wpAny_pure ⟨plainId_quiet F.plain_max_loop _,next _ t _ y (by rw [if_pos hb]) (fun b hbS=>Heap.get?_update_other _ _ (Ne.symm hbS)) (Heap.get?_update_self _ hS' rfl)⟩
  ·rw [decide_eq_false hb];simp only [Bool.false_eq_true,if_false];refine wpAny_bind (wpAny_letGo ?_);rw [hname];exact wpAny_pure ⟨plainId_quiet F.plain_max_loop _,next _ tA c acc (by rw [if_neg hb]) (fun _ _=>rfl) hS'⟩
def mxL:List Int->Int
 | []=>0
 | y::ys=>ys.foldl (fun a b=>if b>a then b else a) y
theorem Yf{g:Array GenState}{dr:Drawn}{os:OsState}{h:Heap}{tk:Nat}{l:Addr}{vs:List Value}{y:Int}{ys:List Int}{e k:Nat}(rm:Room k A)(hp:Prog (PP w) h)(hv:Ints vs (y::ys))(H:Has h [(l,listO vs e)]) (Hn:∀h' tk' u,Prog (PP w) h'->Ext [] h h'->R (.ok (.ret (.int (mxL (y::ys)) u))) ⟨h',g,dr,tk',os⟩): codeAny (model pw w) A (.call (.builtin "max") ⟨[.ref l],[]⟩) R ⟨h,g,dr,tk,os⟩:=by
 have hname:(toString "max"++toString ".loop":String)="max.loop":=by decide
 have ho:=H.own (l,listO vs e) (.head _);have hl:h.IsList l vs.toArray:=XM (s:=⟨h,g,dr,tk,os⟩) ho;have lt:=Heap.lt_size ho;obtain ⟨t,ws,rfl,hw⟩:=hv.tail;have e1:(h.push {cls:=.type "list_iterator",data:=.fields #[.ref l,.int 0 0]}).objs.size=h.objs.size+1:=Heap.size_push ..;refine codeAny_call_builtin F.plain_max F.entry_max ?_;have key:wpAny (model pw w) A.in1 (Builtin.«max» ⟨[.ref l],[]⟩) (fun fin s'=>match fin with
   | .done f=>R (.ok f) s'
   | .again c'=>c'.quiet=true/\codeAny (model pw w) A c' R s') (fun e s'=>R (.error e) s') ⟨h,g,dr,tk,os⟩:=by
  show wpAny _ A.in1 (Builtin.Builtins.bindParams "max" ["key","default"] 0 ⟨[],[]⟩ >>= _) _ _ _;refine wpAny_bind (wpAny_of_eq (show Builtin.Builtins.bindParams "max" ["key","default"] 0 ⟨[],[]⟩=pure [none,none] from rfl) ?_);refine wpAny_bind (wpAny_pure ?_);refine wpAny_bind (wpAny_pyIter_list hl ?_);refine wpAny_bind (wpAny_newObj_type ?_);rw [hname];have hIt:((h.push {cls:=.type "list_iterator",data:=.fields #[.ref l,.int 0 0]}).push {cls:=.type "list",data:=.seq #[]}).IsListIter h.objs.size l 0:=⟨_,Heap.get?_push_of_some _ (Heap.get?_push_size _ rfl),rfl,rfl⟩;have hl2:((h.push {cls:=.type "list_iterator",data:=.fields #[.ref l,.int 0 0]}).push {cls:=.type "list",data:=.seq #[]}).IsList l (Value.int y t::ws).toArray:=hl.at fun o e=>Heap.get?_push_of_some _ (Heap.get?_push_of_some _ e);have nI:(h.objs.size+1:Nat)≠h.objs.size:=Nat.succ_ne_self _;have nl:(h.objs.size+1:Nat)≠l:=Nat.ne_of_gt (Nat.lt_succ_of_lt lt);have hS:=Heap.get?_push_size (h.push {cls:=.type "list_iterator",data:=.fields #[.ref l,.int 0 0]}) (o:={cls:=.type "list",data:=.seq #[]}) rfl;rw [e1] at hS;have fin:∀h' t',(∀b o,b≠h.objs.size->b≠h.objs.size+1->((h.push {cls:=.type "list_iterator",data:=.fields #[.ref l,.int 0 0]}).push {cls:=.type "list",data:=.seq #[]}).get? b=some o->h'.get? b=some o)->(∃o,h'.get? (h.objs.size+1)=some o)->R (.ok (.ret (.int (mxL (y::ys)) t'))) ⟨h',g,dr,tk,os⟩:=by
   intro h' t' k2 ⟨oS,eS⟩;have X:Ext [] h h':=⟨Nat.le_of_lt (Nat.lt_of_succ_lt (Heap.lt_size eS)),fun b o eb _=>k2 b o (Nat.ne_of_lt (Heap.lt_size eb)) (Nat.ne_of_lt (Nat.lt_succ_of_lt (Heap.lt_size eb))) (Heap.get?_push_of_some _ (Heap.get?_push_of_some _ eb))⟩;exact Hn h' tk t' (hp.ext X (fun _ ha=>(nomatch ha))) X
  rw [e1];refine wpAny_pure ⟨plainId_quiet F.plain_max_loop _,?_⟩;refine codeAny_builtin F.entry_max_loop ?_;rw [Around.under_plainId F.plain_max_loop _];show wpAny _ A.in1 (seqItems? (.ref (h.objs.size+1)) >>= _) _ _ _;refine wpAny_bind (wpAny_seqItems hS rfl ?_);show wpAny _ A.in1 (tryCatch (pyNext (.ref h.objs.size)) _ >>= _) _ _ _;refine wpAny_bind (wpAny_tryCatch (wpAny_pyNext_list_item hIt hl2 rfl fun h' hi' hs'=>?_));have hS':=(hs'.2 _ nI).trans hS;show wpAny _ A.in1 (updateSeq (h.objs.size+1) (fun _=>#[.int y t,.int y t]) >>= _) _ _ _;refine wpAny_bind (wpAny_updateSeq hS' rfl ?_);rw [hname];refine wpAny_pure ⟨plainId_quiet F.plain_max_loop _,?_⟩;refine Qh (l:=l) nI nl (Nat.ne_of_lt lt) rm.h ys ws 1 _ t _ y hw (by simp) (hi'.at fun o e=>(Heap.get?_update_other _ _ nI).trans e) (hl2.at fun o e=>(Heap.get?_update_other _ _ nl).trans ((hs'.2 l (Nat.ne_of_lt lt)).trans e)) (Heap.get?_update_self _ hS' rfl) ?_;intro h3 t3 k3 e3;have f:=fin h3 t3 (fun b o b1 b2 eb=>k3 b o b1 b2 ((Heap.get?_update_other _ _ (Ne.symm b2)).trans ((hs'.2 b b1).trans eb))) e3;exact f
 simp only [checkBuiltinCall,F.kind_max];have ha:argsOk "max" ⟨[.ref l],[]⟩:=F.args_max1 _;cases hsig:Manifest.signature? "max" with
 | none=>exact wpAny_pure key
 | some sig=>
  simp only [argsOk,hsig] at ha;have h2:Bind.checkArgs "max" sig ⟨[.ref l],[]⟩=pure ():=ha;show wpAny _ A.in1 (Bind.checkArgs "max" sig ⟨[.ref l],[]⟩) _ _ _;rw [h2];exact wpAny_pure key
end

section
variable(b1 b2:Bool)(P:Params)
def Ar:List Nat:=dO 30 0x181020408002000810200080020400000000000000102060c000
section
variable(n0 t0 n t:Nat)(cs ct r0 r1 r2:Addr)(es:Nat)(c0 c1 c2:Int)(tc0 tc1 tc2 ec:Nat)(v0 v1 v2:List Value)(e0 e1 e2:Nat)(x0 x1 x2:Addr)
def YQ:Out:=
 let xc:Code:=.call (.ref 247) ⟨[.ref cs,.ref ct],[]⟩;ev (bS b1 b2 P n t) 58 Ar [] xc (XQ xc) [] 0 [] 0 0 [] []
theorem VW:qW (YQ b1 b2 P n t cs ct) 8 3 [] [0,1,2,4,5,6,7] ([(n+7,dctO [] 0),(n+6,listO [] 0),(n+5,rgO 0 3),(n+3,XA),(n+2,cellO (.ref ct)),(n+1,cellO (.ref cs)),(n+0,frameO [] 0)]):=lO
def KO:Bool->List Nat
 | true=>oC [yi,dO 20 0x408100040000210204020e003800e1c381,yi,dO 20 0x408100040000212244820e003800e1c381,yi,FP,[3,3,1]]
 | false=>oC [dO 6 0x1800600183,yi,dO 20 0x408100040000210204020e003800e1c381,yi,dO 20 0x408100040000212244820e003800e1c381,yi,FP,[3,3,1]]
abbrev XL cs r0 r1 r2 es:=((cs,listO [.ref r0,.ref r1,.ref r2] es):Xp)
abbrev SM n0 ct cs r0 r1 r2 es c0 tc0 c1 tc1 c2 tc2 ec v0 e0 v1 e1 v2 e2:=([(n0+7,dctO [] 0),(n0+6,listO [] 0),(n0+5,rgO 0 3),(n0+2,cellO (.ref ct)),(n0+1,cellO (.ref cs)),(XL cs r0 r1 r2 es),(Zl ct c0 tc0 c1 tc1 c2 tc2 ec),(r0,listO v0 e0),(r1,listO v1 e1),(r2,listO v2 e2)]:ZQ)
def LL:Out:=let xc:=(YQ b1 b2 P n0 t0 cs ct).res.callee;ev (bS b1 b2 P n t) 278 (KO b2) [{v:=Value.bool true},{v:=VI (c0 - 1) (t+4),di:=1},{v:=VR x0,rd:=[7]},{v:=Value.bool true},{v:=VI (c1 - 1) (t+9),di:=1},{v:=VR x1,rd:=[8]},{v:=Value.bool true},{v:=VI (c2 - 1) (t+14),di:=1},{v:=VR x2,rd:=[9]}] xc (denF xc) [] 0 (SM n0 ct cs r0 r1 r2 es c0 tc0 c1 tc1 c2 tc2 ec v0 e0 v1 e1 v2 e2) 0 0 [] []
abbrev aroBTTT_ok:Prop:=XD (LL b1 b2 P n0 t0 n t cs ct r0 r1 r2 es c0 c1 c2 tc0 tc1 tc2 ec v0 v1 v2 e0 e1 e2 x0 x1 x2) 2 15 [oB "list.__getitem__" [VR r2,VI (c2 - 1) (t+14)] (t+15) (n+0) (VR x2) (rd:=[(r2,listO v2 e2)]),oB "int.__sub__" [VI c2 tc2,VI 1 (t+13)] (t+14) (n+0) (VI (c2 - 1) (t+14)) (di:=1),oB "int.__gt__" [VI c2 tc2,VI 0 (t+12)] (t+13) (n+0) (Value.bool true),oB "list.__getitem__" [VR r1,VI (c1 - 1) (t+9)] (t+10) (n+0) (VR x1) (rd:=[(r1,listO v1 e1)]),oB "int.__sub__" [VI c1 tc1,VI 1 (t+8)] (t+9) (n+0) (VI (c1 - 1) (t+9)) (di:=1),oB "int.__gt__" [VI c1 tc1,VI 0 (t+7)] (t+8) (n+0) (Value.bool true),oB "list.__getitem__" [VR r0,VI (c0 - 1) (t+4)] (t+5) (n+0) (VR x0) (rd:=[(r0,listO v0 e0)]),oB "int.__sub__" [VI c0 tc0,VI 1 (t+3)] (t+4) (n+0) (VI (c0 - 1) (t+4)) (di:=1),oB "int.__gt__" [VI c0 tc0,VI 0 (t+2)] (t+3) (n+0) (Value.bool true)] [2,3,5,6,7,8,9,10,11] ([(n0+7,dctO [YS P (t+1) (.int 2 (t+10))] 1),(n0+6,listO [.ref x0,.ref x1,.ref x2] 3),(n0+2,cellO (.ref ct)),(n0+1,cellO (.ref cs)),(XL cs r0 r1 r2 es),(Zl ct c0 tc0 c1 tc1 c2 tc2 ec),(r0,listO v0 e0),(r1,listO v1 e1),(r2,listO v2 e2)])
end
def KP:Bool->List Nat
 | true=>oC [yi,dO 20 0x408100040000210204020e003800e1c381,yi,dO 20 0x408100040000212244820e003800e1c381,YV,dO 13 0x1060c1800600180041c007]
 | false=>oC [dO 6 0x1800600183,yi,dO 20 0x408100040000210204020e003800e1c381,yi,dO 20 0x408100040000212244820e003800e1c381,YV,dO 13 0x1060c1800600180041c007]
def LM(n0 t0 n t:Nat)(cs ct:Addr)(r0 r1 r2:Addr)(es:Nat)(c0 c1 c2:Int)(tc0 tc1 tc2 ec:Nat)(v0 v1 v2:List Value)(e0 e1 e2:Nat)(x0 x1 x2:Addr):Out:=let xc:=(YQ b1 b2 P n0 t0 cs ct).res.callee;ev (bS b1 b2 P n t) 235 (KP b2) [{v:=Value.bool true},{v:=VI (c0 - 1) (t+4),di:=1},{v:=VR x0,rd:=[7]},{v:=Value.bool true},{v:=VI (c1 - 1) (t+9),di:=1},{v:=VR x1,rd:=[8]},{v:=Value.bool false}] xc (denF xc) [] 0 (SM n0 ct cs r0 r1 r2 es c0 tc0 c1 tc1 c2 tc2 ec v0 e0 v1 e1 v2 e2) 0 0 [] []
abbrev aroBTTF_s(n0 t0 n t:Nat)(cs ct:Addr)(r0 r1 r2:Addr)(es:Nat)(c0 c1 c2:Int)(tc0 tc1 tc2 ec:Nat)(v0 v1 v2:List Value)(e0 e1 e2:Nat)(x0 x1 x2:Addr):Prop:=XD (LM b1 b2 P n0 t0 n t cs ct r0 r1 r2 es c0 c1 c2 tc0 tc1 tc2 ec v0 v1 v2 e0 e1 e2 x0 x1 x2) 2 13 [oB "int.__gt__" [VI c2 tc2,VI 0 (t+12)] (t+13) (n+0) (Value.bool false),oB "list.__getitem__" [VR r1,VI (c1 - 1) (t+9)] (t+10) (n+0) (VR x1) (rd:=[(r1,listO v1 e1)]),oB "int.__sub__" [VI c1 tc1,VI 1 (t+8)] (t+9) (n+0) (VI (c1 - 1) (t+9)) (di:=1),oB "int.__gt__" [VI c1 tc1,VI 0 (t+7)] (t+8) (n+0) (Value.bool true),oB "list.__getitem__" [VR r0,VI (c0 - 1) (t+4)] (t+5) (n+0) (VR x0) (rd:=[(r0,listO v0 e0)]),oB "int.__sub__" [VI c0 tc0,VI 1 (t+3)] (t+4) (n+0) (VI (c0 - 1) (t+4)) (di:=1),oB "int.__gt__" [VI c0 tc0,VI 0 (t+2)] (t+3) (n+0) (Value.bool true)] [2,3,5,6,7,8,9,10,11] ([(n0+7,dctO [YS P (t+1) (.int 2 (t+10))] 1),(n0+6,listO [.ref x0,.ref x1] 2),(n0+2,cellO (.ref ct)),(n0+1,cellO (.ref cs)),(XL cs r0 r1 r2 es),(Zl ct c0 tc0 c1 tc1 c2 tc2 ec),(r0,listO v0 e0),(r1,listO v1 e1),(r2,listO v2 e2)])
def KQ:Bool->List Nat
 | true=>oC [yi,dO 20 0x408100040000210204020e003800e1c381,YV,[7,0,7,2],yi,FP,[3,3,1]]
 | false=>oC [dO 6 0x1800600183,yi,dO 20 0x408100040000210204020e003800e1c381,YV,[7,0,7,2],yi,FP,[3,3,1]]
def LN(n0 t0 n t:Nat)(cs ct:Addr)(r0 r1 r2:Addr)(es:Nat)(c0 c1 c2:Int)(tc0 tc1 tc2 ec:Nat)(v0 v1 v2:List Value)(e0 e1 e2:Nat)(x0 x1 x2:Addr):Out:=let xc:=(YQ b1 b2 P n0 t0 cs ct).res.callee;ev (bS b1 b2 P n t) 235 (KQ b2) [{v:=Value.bool true},{v:=VI (c0 - 1) (t+4),di:=1},{v:=VR x0,rd:=[7]},{v:=Value.bool false},{v:=Value.bool true},{v:=VI (c2 - 1) (t+12),di:=1},{v:=VR x2,rd:=[9]}] xc (denF xc) [] 0 (SM n0 ct cs r0 r1 r2 es c0 tc0 c1 tc1 c2 tc2 ec v0 e0 v1 e1 v2 e2) 0 0 [] []
abbrev Vl n0(P:Params) t:=((n0+7,dctO [YS P (t+1) (.int 2 (t+8))] 1):Xp)
abbrev aroBTFT_s(n0 t0 n t:Nat)(cs ct:Addr)(r0 r1 r2:Addr)(es:Nat)(c0 c1 c2:Int)(tc0 tc1 tc2 ec:Nat)(v0 v1 v2:List Value)(e0 e1 e2:Nat)(x0 x1 x2:Addr):Prop:=XD (LN b1 b2 P n0 t0 n t cs ct r0 r1 r2 es c0 c1 c2 tc0 tc1 tc2 ec v0 v1 v2 e0 e1 e2 x0 x1 x2) 2 13 [oB "list.__getitem__" [VR r2,VI (c2 - 1) (t+12)] (t+13) (n+0) (VR x2) (rd:=[(r2,listO v2 e2)]),oB "int.__sub__" [VI c2 tc2,VI 1 (t+11)] (t+12) (n+0) (VI (c2 - 1) (t+12)) (di:=1),oB "int.__gt__" [VI c2 tc2,VI 0 (t+10)] (t+11) (n+0) (Value.bool true),oB "int.__gt__" [VI c1 tc1,VI 0 (t+7)] (t+8) (n+0) (Value.bool false),oB "list.__getitem__" [VR r0,VI (c0 - 1) (t+4)] (t+5) (n+0) (VR x0) (rd:=[(r0,listO v0 e0)]),oB "int.__sub__" [VI c0 tc0,VI 1 (t+3)] (t+4) (n+0) (VI (c0 - 1) (t+4)) (di:=1),oB "int.__gt__" [VI c0 tc0,VI 0 (t+2)] (t+3) (n+0) (Value.bool true)] [2,3,5,6,7,8,9,10,11] ([(Vl n0 P t),(n0+6,listO [.ref x0,.ref x2] 2),(n0+2,cellO (.ref ct)),(n0+1,cellO (.ref cs)),(XL cs r0 r1 r2 es),(Zl ct c0 tc0 c1 tc1 c2 tc2 ec),(r0,listO v0 e0),(r1,listO v1 e1),(r2,listO v2 e2)])
def KR:Bool->List Nat
 | true=>oC [yi,dO 20 0x408100040000210204020e003800e1c381,YV,[7,0,7,2],YV,dO 13 0x1060c1800600180041c007]
 | false=>oC [dO 6 0x1800600183,yi,dO 20 0x408100040000210204020e003800e1c381,YV,[7,0,7,2],YV,dO 13 0x1060c1800600180041c007]
def LO(n0 t0 n t:Nat)(cs ct:Addr)(r0 r1 r2:Addr)(es:Nat)(c0 c1 c2:Int)(tc0 tc1 tc2 ec:Nat)(v0 v1 v2:List Value)(e0 e1 e2:Nat)(x0 x1 x2:Addr):Out:=let xc:=(YQ b1 b2 P n0 t0 cs ct).res.callee;ev (bS b1 b2 P n t) 192 (KR b2) [{v:=Value.bool true},{v:=VI (c0 - 1) (t+4),di:=1},{v:=VR x0,rd:=[7]},{v:=Value.bool false},{v:=Value.bool false}] xc (denF xc) [] 0 (SM n0 ct cs r0 r1 r2 es c0 tc0 c1 tc1 c2 tc2 ec v0 e0 v1 e1 v2 e2) 0 0 [] []
abbrev aroBTFF_s(n0 t0 n t:Nat)(cs ct:Addr)(r0 r1 r2:Addr)(es:Nat)(c0 c1 c2:Int)(tc0 tc1 tc2 ec:Nat)(v0 v1 v2:List Value)(e0 e1 e2:Nat)(x0 x1 x2:Addr):Prop:=XD (LO b1 b2 P n0 t0 n t cs ct r0 r1 r2 es c0 c1 c2 tc0 tc1 tc2 ec v0 v1 v2 e0 e1 e2 x0 x1 x2) 2 11 [oB "int.__gt__" [VI c2 tc2,VI 0 (t+10)] (t+11) (n+0) (Value.bool false),oB "int.__gt__" [VI c1 tc1,VI 0 (t+7)] (t+8) (n+0) (Value.bool false),oB "list.__getitem__" [VR r0,VI (c0 - 1) (t+4)] (t+5) (n+0) (VR x0) (rd:=[(r0,listO v0 e0)]),oB "int.__sub__" [VI c0 tc0,VI 1 (t+3)] (t+4) (n+0) (VI (c0 - 1) (t+4)) (di:=1),oB "int.__gt__" [VI c0 tc0,VI 0 (t+2)] (t+3) (n+0) (Value.bool true)] [2,3,5,6,7,8,9,10,11] ([(Vl n0 P t),(n0+6,listO [.ref x0] 1),(n0+2,cellO (.ref ct)),(n0+1,cellO (.ref cs)),(XL cs r0 r1 r2 es),(Zl ct c0 tc0 c1 tc1 c2 tc2 ec),(r0,listO v0 e0),(r1,listO v1 e1),(r2,listO v2 e2)])
def KS:Bool->List Nat
 | true=>oC [YV,[7,0,7,2],yi,dO 20 0x408100040000212244820e003800e1c381,yi,FP,[3,3,1]]
 | false=>oC [dO 6 0x1800600183,YV,[7,0,7,2],yi,dO 20 0x408100040000212244820e003800e1c381,yi,FP,[3,3,1]]
def LP(n0 t0 n t:Nat)(cs ct:Addr)(r0 r1 r2:Addr)(es:Nat)(c0 c1 c2:Int)(tc0 tc1 tc2 ec:Nat)(v0 v1 v2:List Value)(e0 e1 e2:Nat)(x0 x1 x2:Addr):Out:=let xc:=(YQ b1 b2 P n0 t0 cs ct).res.callee;ev (bS b1 b2 P n t) 235 (KS b2) [{v:=Value.bool false},{v:=Value.bool true},{v:=VI (c1 - 1) (t+7),di:=1},{v:=VR x1,rd:=[8]},{v:=Value.bool true},{v:=VI (c2 - 1) (t+12),di:=1},{v:=VR x2,rd:=[9]}] xc (denF xc) [] 0 (SM n0 ct cs r0 r1 r2 es c0 tc0 c1 tc1 c2 tc2 ec v0 e0 v1 e1 v2 e2) 0 0 [] []
abbrev aroBFTT_s(n0 t0 n t:Nat)(cs ct:Addr)(r0 r1 r2:Addr)(es:Nat)(c0 c1 c2:Int)(tc0 tc1 tc2 ec:Nat)(v0 v1 v2:List Value)(e0 e1 e2:Nat)(x0 x1 x2:Addr):Prop:=XD (LP b1 b2 P n0 t0 n t cs ct r0 r1 r2 es c0 c1 c2 tc0 tc1 tc2 ec v0 v1 v2 e0 e1 e2 x0 x1 x2) 2 13 [oB "list.__getitem__" [VR r2,VI (c2 - 1) (t+12)] (t+13) (n+0) (VR x2) (rd:=[(r2,listO v2 e2)]),oB "int.__sub__" [VI c2 tc2,VI 1 (t+11)] (t+12) (n+0) (VI (c2 - 1) (t+12)) (di:=1),oB "int.__gt__" [VI c2 tc2,VI 0 (t+10)] (t+11) (n+0) (Value.bool true),oB "list.__getitem__" [VR r1,VI (c1 - 1) (t+7)] (t+8) (n+0) (VR x1) (rd:=[(r1,listO v1 e1)]),oB "int.__sub__" [VI c1 tc1,VI 1 (t+6)] (t+7) (n+0) (VI (c1 - 1) (t+7)) (di:=1),oB "int.__gt__" [VI c1 tc1,VI 0 (t+5)] (t+6) (n+0) (Value.bool true),oB "int.__gt__" [VI c0 tc0,VI 0 (t+2)] (t+3) (n+0) (Value.bool false)] [2,3,5,6,7,8,9,10,11] ([(Vl n0 P t),(n0+6,listO [.ref x1,.ref x2] 2),(n0+2,cellO (.ref ct)),(n0+1,cellO (.ref cs)),(XL cs r0 r1 r2 es),(Zl ct c0 tc0 c1 tc1 c2 tc2 ec),(r0,listO v0 e0),(r1,listO v1 e1),(r2,listO v2 e2)])
def KU:Bool->List Nat
 | true=>oC [YV,[7,0,7,2],yi,dO 20 0x408100040000212244820e003800e1c381,YV,dO 13 0x1060c1800600180041c007]
 | false=>oC [dO 6 0x1800600183,YV,[7,0,7,2],yi,dO 20 0x408100040000212244820e003800e1c381,YV,dO 13 0x1060c1800600180041c007]
def LQ(n0 t0 n t:Nat)(cs ct:Addr)(r0 r1 r2:Addr)(es:Nat)(c0 c1 c2:Int)(tc0 tc1 tc2 ec:Nat)(v0 v1 v2:List Value)(e0 e1 e2:Nat)(x0 x1 x2:Addr):Out:=let xc:=(YQ b1 b2 P n0 t0 cs ct).res.callee;ev (bS b1 b2 P n t) 192 (KU b2) [{v:=Value.bool false},{v:=Value.bool true},{v:=VI (c1 - 1) (t+7),di:=1},{v:=VR x1,rd:=[8]},{v:=Value.bool false}] xc (denF xc) [] 0 (SM n0 ct cs r0 r1 r2 es c0 tc0 c1 tc1 c2 tc2 ec v0 e0 v1 e1 v2 e2) 0 0 [] []
abbrev aroBFTF_s(n0 t0 n t:Nat)(cs ct:Addr)(r0 r1 r2:Addr)(es:Nat)(c0 c1 c2:Int)(tc0 tc1 tc2 ec:Nat)(v0 v1 v2:List Value)(e0 e1 e2:Nat)(x0 x1 x2:Addr):Prop:=XD (LQ b1 b2 P n0 t0 n t cs ct r0 r1 r2 es c0 c1 c2 tc0 tc1 tc2 ec v0 v1 v2 e0 e1 e2 x0 x1 x2) 2 11 [oB "int.__gt__" [VI c2 tc2,VI 0 (t+10)] (t+11) (n+0) (Value.bool false),oB "list.__getitem__" [VR r1,VI (c1 - 1) (t+7)] (t+8) (n+0) (VR x1) (rd:=[(r1,listO v1 e1)]),oB "int.__sub__" [VI c1 tc1,VI 1 (t+6)] (t+7) (n+0) (VI (c1 - 1) (t+7)) (di:=1),oB "int.__gt__" [VI c1 tc1,VI 0 (t+5)] (t+6) (n+0) (Value.bool true),oB "int.__gt__" [VI c0 tc0,VI 0 (t+2)] (t+3) (n+0) (Value.bool false)] [2,3,5,6,7,8,9,10,11] ([(Vl n0 P t),(n0+6,listO [.ref x1] 1),(n0+2,cellO (.ref ct)),(n0+1,cellO (.ref cs)),(XL cs r0 r1 r2 es),(Zl ct c0 tc0 c1 tc1 c2 tc2 ec),(r0,listO v0 e0),(r1,listO v1 e1),(r2,listO v2 e2)])
def KV:Bool->List Nat
 | true=>oC [YV,[7,0,7,2],YV,[7,0,7,2],yi,FP,[3,3,1]]
 | false=>oC [dO 6 0x1800600183,YV,[7,0,7,2],YV,[7,0,7,2],yi,FP,[3,3,1]]
def LR(n0 t0 n t:Nat)(cs ct:Addr)(r0 r1 r2:Addr)(es:Nat)(c0 c1 c2:Int)(tc0 tc1 tc2 ec:Nat)(v0 v1 v2:List Value)(e0 e1 e2:Nat)(x0 x1 x2:Addr):Out:=let xc:=(YQ b1 b2 P n0 t0 cs ct).res.callee;ev (bS b1 b2 P n t) 192 (KV b2) [{v:=Value.bool false},{v:=Value.bool false},{v:=Value.bool true},{v:=VI (c2 - 1) (t+10),di:=1},{v:=VR x2,rd:=[9]}] xc (denF xc) [] 0 (SM n0 ct cs r0 r1 r2 es c0 tc0 c1 tc1 c2 tc2 ec v0 e0 v1 e1 v2 e2) 0 0 [] []
abbrev aroBFFT_s(n0 t0 n t:Nat)(cs ct:Addr)(r0 r1 r2:Addr)(es:Nat)(c0 c1 c2:Int)(tc0 tc1 tc2 ec:Nat)(v0 v1 v2:List Value)(e0 e1 e2:Nat)(x0 x1 x2:Addr):Prop:=XD (LR b1 b2 P n0 t0 n t cs ct r0 r1 r2 es c0 c1 c2 tc0 tc1 tc2 ec v0 v1 v2 e0 e1 e2 x0 x1 x2) 2 11 [oB "list.__getitem__" [VR r2,VI (c2 - 1) (t+10)] (t+11) (n+0) (VR x2) (rd:=[(r2,listO v2 e2)]),oB "int.__sub__" [VI c2 tc2,VI 1 (t+9)] (t+10) (n+0) (VI (c2 - 1) (t+10)) (di:=1),oB "int.__gt__" [VI c2 tc2,VI 0 (t+8)] (t+9) (n+0) (Value.bool true),oB "int.__gt__" [VI c1 tc1,VI 0 (t+5)] (t+6) (n+0) (Value.bool false),oB "int.__gt__" [VI c0 tc0,VI 0 (t+2)] (t+3) (n+0) (Value.bool false)] [2,3,5,6,7,8,9,10,11] ([(n0+7,dctO [YS P (t+1) (.int 2 (t+6))] 1),(n0+6,listO [.ref x2] 1),(n0+2,cellO (.ref ct)),(n0+1,cellO (.ref cs)),(XL cs r0 r1 r2 es),(Zl ct c0 tc0 c1 tc1 c2 tc2 ec),(r0,listO v0 e0),(r1,listO v1 e1),(r2,listO v2 e2)])
def KW:Bool->List Nat
 | true=>oC [YV,[7,0,7,2],YV,[7,0,7,2],YV,dO 13 0x1060c1800600180041c007]
 | false=>oC [dO 6 0x1800600183,YV,[7,0,7,2],YV,[7,0,7,2],YV,dO 13 0x1060c1800600180041c007]
def LS(n0 t0 n t:Nat)(cs ct:Addr)(r0 r1 r2:Addr)(es:Nat)(c0 c1 c2:Int)(tc0 tc1 tc2 ec:Nat)(v0 v1 v2:List Value)(e0 e1 e2:Nat)(x0 x1 x2:Addr):Out:=let xc:=(YQ b1 b2 P n0 t0 cs ct).res.callee;ev (bS b1 b2 P n t) 149 (KW b2) [{v:=Value.bool false},{v:=Value.bool false},{v:=Value.bool false}] xc (denF xc) [] 0 (SM n0 ct cs r0 r1 r2 es c0 tc0 c1 tc1 c2 tc2 ec v0 e0 v1 e1 v2 e2) 0 0 [] []
section
variable(n0 t0 n1 t1 n t:Nat)(cs ct:Addr)(q:Nat)(vq:Value)(r0 r1 r2:Addr)(es:Nat)(c0 c1 c2:Int)(tc0 tc1 tc2 ec:Nat)(v0 v1 v2:List Value)(e0 e1 e2:Nat)(x0 x1 x2:Addr)
abbrev aroBFFF_s:Prop:=XD (LS b1 b2 P n0 t0 n t cs ct r0 r1 r2 es c0 c1 c2 tc0 tc1 tc2 ec v0 v1 v2 e0 e1 e2 x0 x1 x2) 2 9 [oB "int.__gt__" [VI c2 tc2,VI 0 (t+8)] (t+9) (n+0) (Value.bool false),oB "int.__gt__" [VI c1 tc1,VI 0 (t+5)] (t+6) (n+0) (Value.bool false),oB "int.__gt__" [VI c0 tc0,VI 0 (t+2)] (t+3) (n+0) (Value.bool false)] [2,3,5,6,7,8,9,10,11] ([(n0+7,dctO [YS P (t+1) (.int 2 (t+6))] 1),(n0+6,listO [] 0),(n0+2,cellO (.ref ct)),(n0+1,cellO (.ref cs)),(XL cs r0 r1 r2 es),(Zl ct c0 tc0 c1 tc1 c2 tc2 ec),(r0,listO v0 e0),(r1,listO v1 e1),(r2,listO v2 e2)])
def Aq:List Nat:=dO 27 0xc081020400100040810004001020000000000020404081
def BW:Out:=let xr:=(YQ b1 b2 P n0 t0 cs ct).res;ev (bS b1 b2 P n t) 56 Aq [] xr.c (xr.k (.ok .next)) xr.K xr.d [(n0+7,dctO [YS P q vq] 1),(n0+3,XA),(n0+0,frameO [] 0)] 0 0 [] []
abbrev Yv n0:=((n0+3,cellO (.ref (n0+6))):Xp)
theorem Zj:qW (BW b1 b2 P n0 t0 n t cs ct q vq) 5 3 [] [0,1,2,3,6,7] ([(n+4,XA),(n+3,dctO [] 0),(n+2,listO [] 0),(n+1,rgO 0 3),(Yv n0),(n0+0,frameO [] 0)]):=lO
def Ap:List Nat:=[]
def aroE:Out:=let xr:=(BW b1 b2 P n0 t0 n1 t1 cs ct q vq).res;ev (bS b1 b2 P n t) 7 Ap [] xr.c (xr.k (.ok .next)) xr.K xr.d [(n1+3,dctO [] 0),(n0+0,frameO [] 0)] 0 0 [] []
abbrev aroE_ok:Prop:=SegE (aroE b1 b2 P n0 t0 n1 t1 n t cs ct q vq) (.flow (.ret (.ref (n1+2)))) (.call .none {}) 0 0 [] []
  ([])
end
end

section
variable(b1 b2:Bool)(P:Params)
def KN:Bool->List Nat
 | true=>dO 46 0x1840c1000600182060604183140c18006001800004007001c3860000081081020408102000800200
 | false=>oC [HQ,dO 24 0x61030400180060818181060c50306001800600180]
section
variable(n0 t0 n1 t1 n2 t2 n3 t3 n4 t4 n t:Nat)(cs ct:Addr)(q:Nat)(vq:Value)(le:Nat)(k0:Addr)(a00 a01 a02:Int)(u00 u01 u02 w0:Nat)(M0:Int)(m0:Nat)(M1:Int)(m1:Nat)(M2:Int)(m2:Nat)
def VV:Out:=let xc:=(BW b1 b2 P n0 t0 n1 t1 cs ct q vq).res.callee;ev (bS b1 b2 P n t) 103 (KN b2) [] xc (denF xc) [] 0 [(n1+4,XA),(n1+3,dctO [] 0),(n1+2,listO [] 0),(n1+1,rgO 0 3),(Yv n0),(n0+6,listO [] le)] 0 0 [] []
abbrev aroD0_0_ok:Prop:=SegE (VV b1 b2 P n0 t0 n1 t1 n t cs ct q vq le) .stop (.call (.builtin "max") ⟨[.ref (n+6)],[]⟩) 7 2 [] [0,7,8,9,10,11,12] ([(n+6,listO [.int 0 (t+1)] 0),(n1+4,cellO (.int 0 (t+0))),(n1+3,dctO [] 0),(n1+2,listO [] 0),(n1+1,rgO 1 2),(Yv n0),(n0+6,listO [] le)])
def KM:Bool->List Nat
 | true=>oC [Jc,dO 26 0x1840c1000600182060604183140c18006001800004007]
 | false=>oC [Jc,dO 32 0x61030400180060818181060c5030600180060018006001830004007]
def VU:Out:=let xr:=(VV b1 b2 P n0 t0 n1 t1 n2 t2 cs ct q vq le).res;ev (bS b1 b2 P n t) 100 (KM b2) [] xr.c (xr.k (.ok (.ret (.int M0 m0)))) xr.K xr.d [(n1+4,cellO (.int 0 (t2+0))),(n1+3,dctO [] 0),(n1+2,listO [] 0),(n1+1,rgO 1 2),(Yv n0),(n0+6,listO [] le)] 0 0 [] []
abbrev qH n1 M0 m0:=((n1+2,listO [.int M0 m0] 1):Xp)
abbrev aroD0_1_ok:Prop:=SegE (VU b1 b2 P n0 t0 n1 t1 n2 t2 n t cs ct q vq le M0 m0) .stop (.call (.builtin "max") ⟨[.ref (n+6)],[]⟩) 7 2 [] [0,7,8,9,10,11,12] ([(n+6,listO [.int 0 (t+1)] 0),(n1+4,cellO (.int 1 (t+0))),(n1+3,dctO [] 0),(qH n1 M0 m0),(n1+1,rgO 2 1),(Yv n0),(n0+6,listO [] le)])
def KL:Bool->List Nat
 | true=>oC [Jc,dO 26 0x1840c1000600182060604183140c18006001800004007]
 | false=>oC [Jc,dO 32 0x61030400180060818181060c5030600180060018006001830004007]
def VT:Out:=let xr:=(VU b1 b2 P n0 t0 n1 t1 n2 t2 n3 t3 cs ct q vq le M0 m0).res;ev (bS b1 b2 P n t) 100 (KL b2) [] xr.c (xr.k (.ok (.ret (.int M1 m1)))) xr.K xr.d [(n1+4,cellO (.int 1 (t3+0))),(n1+3,dctO [] 0),(qH n1 M0 m0),(n1+1,rgO 2 1),(Yv n0),(n0+6,listO [] le)] 0 0 [] []
abbrev qL n1 M0 m0 M1 m1:=((n1+2,listO [.int M0 m0,.int M1 m1] 2):Xp)
abbrev aroD0_2_ok:Prop:=SegE (VT b1 b2 P n0 t0 n1 t1 n2 t2 n3 t3 n t cs ct q vq le M0 m0 M1 m1) .stop (.call (.builtin "max") ⟨[.ref (n+6)],[]⟩) 7 2 [] [0,7,8,9,10,11,12] ([(n+6,listO [.int 0 (t+1)] 0),(n1+4,cellO (.int 2 (t+0))),(n1+3,dctO [] 0),(qL n1 M0 m0 M1 m1),(n1+1,rgO 3 0),(Yv n0),(n0+6,listO [] le)])
def KK:Bool->List Nat
 | true=>dO 15 0x4204080020008001830600180
 | false=>dO 15 0x4204080020008001830600180
def LK:Out:=let xr:=(VT b1 b2 P n0 t0 n1 t1 n2 t2 n3 t3 n4 t4 cs ct q vq le M0 m0 M1 m1).res;ev (bS b1 b2 P n t) 29 (KK b2) [] xr.c (xr.k (.ok (.ret (.int M2 m2)))) xr.K xr.d [(n1+4,cellO (.int 2 (t4+0))),(n1+3,dctO [] 0),(qL n1 M0 m0 M1 m1),(n1+1,rgO 3 0),(Yv n0),(n0+6,listO [] le)] 0 0 [] []
abbrev aroD0_3_ok:Prop:=XD (LK b1 b2 P n0 t0 n1 t1 n2 t2 n3 t3 n4 t4 n t cs ct q vq le M0 m0 M1 m1 M2 m2) 2 0 [] [3,4,6,7] ([(n1+3,dctO [] 0),(n1+2,listO [.int M0 m0,.int M1 m1,.int M2 m2] 3),(Yv n0),(n0+6,listO [] le)])
def KJ:Bool->List Nat
 | true=>oC [dO 24 0x4007001c3860000081081020408102000800200,Bd,dO 6 0x1840c10006]
 | false=>oC [HQ,[0,3],Bd,dO 6 0x1840c10006]
abbrev YX k0 a00 u00 a01 u01 a02 u02 w0:=((k0,listO [.int a00 u00,.int a01 u01,.int a02 u02] w0):Xp)
abbrev qF n0 k0 le:=((n0+6,listO [.ref k0] le):Xp)
def VQ:Out:=let xc:=(BW b1 b2 P n0 t0 n1 t1 cs ct q vq).res.callee;ev (bS b1 b2 P n t) 146 (KJ b2) [] xc (denF xc) [] 0 [(n1+4,XA),(n1+3,dctO [] 0),(n1+2,listO [] 0),(n1+1,rgO 0 3),(Yv n0),(qF n0 k0 le),(YX k0 a00 u00 a01 u01 a02 u02 w0)] 0 0 [] []
abbrev aroD1_0_ok:Prop:=SegE (VQ b1 b2 P n0 t0 n1 t1 n t cs ct q vq le k0 a00 a01 a02 u00 u01 u02 w0) .stop (.call (.builtin "max") ⟨[.ref (n+6)],[]⟩) 7 3 [] [0,7,8,9,10,11,12,13] ([(n+6,listO [.int 0 (t+1),.int a00 u00] 0),(n1+4,cellO (.int 0 (t+0))),(n1+3,dctO [] 0),(n1+2,listO [] 0),(n1+1,rgO 1 2),(Yv n0),(qF n0 k0 le),(YX k0 a00 u00 a01 u01 a02 u02 w0)])
def KH:Bool->List Nat
 | true=>oC [Jc,[7,0,1,0],Bd,dO 6 0x1840c10006]
 | false=>oC [Jc,dO 10 0x18006001830004007,Bd,dO 6 0x1840c10006]
def VP:Out:=let xr:=(VQ b1 b2 P n0 t0 n1 t1 n2 t2 cs ct q vq le k0 a00 a01 a02 u00 u01 u02 w0).res;ev (bS b1 b2 P n t) 143 (KH b2) [] xr.c (xr.k (.ok (.ret (.int M0 m0)))) xr.K xr.d [(n1+4,cellO (.int 0 (t2+0))),(n1+3,dctO [] 0),(n1+2,listO [] 0),(n1+1,rgO 1 2),(Yv n0),(qF n0 k0 le),(YX k0 a00 u00 a01 u01 a02 u02 w0)] 0 0 [] []
abbrev aroD1_1_ok:Prop:=SegE (VP b1 b2 P n0 t0 n1 t1 n2 t2 n t cs ct q vq le k0 a00 a01 a02 u00 u01 u02 w0 M0 m0) .stop (.call (.builtin "max") ⟨[.ref (n+6)],[]⟩) 7 3 [] [0,7,8,9,10,11,12,13] ([(n+6,listO [.int 0 (t+1),.int a01 u01] 0),(n1+4,cellO (.int 1 (t+0))),(n1+3,dctO [] 0),(qH n1 M0 m0),(n1+1,rgO 2 1),(Yv n0),(qF n0 k0 le),(YX k0 a00 u00 a01 u01 a02 u02 w0)])
def KG:Bool->List Nat
 | true=>oC [Jc,[7,0,1,0],Bd,dO 6 0x1840c10006]
 | false=>oC [Jc,dO 10 0x18006001830004007,Bd,dO 6 0x1840c10006]
def VO:Out:=let xr:=(VP b1 b2 P n0 t0 n1 t1 n2 t2 n3 t3 cs ct q vq le k0 a00 a01 a02 u00 u01 u02 w0 M0 m0).res;ev (bS b1 b2 P n t) 143 (KG b2) [] xr.c (xr.k (.ok (.ret (.int M1 m1)))) xr.K xr.d [(n1+4,cellO (.int 1 (t3+0))),(n1+3,dctO [] 0),(qH n1 M0 m0),(n1+1,rgO 2 1),(Yv n0),(qF n0 k0 le),(YX k0 a00 u00 a01 u01 a02 u02 w0)] 0 0 [] []
abbrev aroD1_2_ok:Prop:=SegE (VO b1 b2 P n0 t0 n1 t1 n2 t2 n3 t3 n t cs ct q vq le k0 a00 a01 a02 u00 u01 u02 w0 M0 m0 M1 m1) .stop (.call (.builtin "max") ⟨[.ref (n+6)],[]⟩) 7 3 [] [0,7,8,9,10,11,12,13] ([(n+6,listO [.int 0 (t+1),.int a02 u02] 0),(n1+4,cellO (.int 2 (t+0))),(n1+3,dctO [] 0),(qL n1 M0 m0 M1 m1),(n1+1,rgO 3 0),(Yv n0),(qF n0 k0 le),(YX k0 a00 u00 a01 u01 a02 u02 w0)])
def KF:Bool->List Nat
 | true=>dO 15 0x4204080020008001830600180
 | false=>dO 15 0x4204080020008001830600180
def LJ:Out:=let xr:=(VO b1 b2 P n0 t0 n1 t1 n2 t2 n3 t3 n4 t4 cs ct q vq le k0 a00 a01 a02 u00 u01 u02 w0 M0 m0 M1 m1).res;ev (bS b1 b2 P n t) 29 (KF b2) [] xr.c (xr.k (.ok (.ret (.int M2 m2)))) xr.K xr.d [(n1+4,cellO (.int 2 (t4+0))),(n1+3,dctO [] 0),(qL n1 M0 m0 M1 m1),(n1+1,rgO 3 0),(Yv n0),(qF n0 k0 le),(YX k0 a00 u00 a01 u01 a02 u02 w0)] 0 0 [] []
abbrev aroD1_3_ok:Prop:=XD (LJ b1 b2 P n0 t0 n1 t1 n2 t2 n3 t3 n4 t4 n t cs ct q vq le k0 a00 a01 a02 u00 u01 u02 w0 M0 m0 M1 m1 M2 m2) 2 0 [] [3,4,6,7,8] ([(n1+3,dctO [] 0),(n1+2,listO [.int M0 m0,.int M1 m1,.int M2 m2] 3),(Yv n0),(qF n0 k0 le),(YX k0 a00 u00 a01 u01 a02 u02 w0)])
end
end

section
variable(b1 b2:Bool)(P:Params)
def KE:Bool->List Nat
 | true=>oC [dO 24 0x4007001c3860000081081020408102000800200,KY,dO 18 0x1840c100060018206060c181060c503]
 | false=>oC [HQ,[0,3],KY,dO 18 0x1840c100060018206060c181060c503]
section
variable(n0 t0 n1 t1 n2 t2 n3 t3 n4 t4 n t:Nat)(cs ct:Addr)(q:Nat)(vq:Value)(le:Nat)(k0:Addr)(a00 a01 a02:Int)(u00 u01 u02 w0:Nat)(k1:Addr)(a10 a11 a12:Int)(u10 u11 u12 w1:Nat)(M0:Int)(m0:Nat)(M1:Int)(m1:Nat)(M2:Int)(m2:Nat)
abbrev Jf k1 a10 u10 a11 u11 a12 u12 w1:=((k1,listO [.int a10 u10,.int a11 u11,.int a12 u12] w1):Xp)
abbrev qJ n0 k0 k1 le:=((n0+6,listO [.ref k0,.ref k1] le):Xp)
def VN:Out:=let xc:=(BW b1 b2 P n0 t0 n1 t1 cs ct q vq).res.callee;ev (bS b1 b2 P n t) 185 (KE b2) [] xc (denF xc) [] 0 [(n1+4,XA),(n1+3,dctO [] 0),(n1+2,listO [] 0),(n1+1,rgO 0 3),(Yv n0),(qJ n0 k0 k1 le),(YX k0 a00 u00 a01 u01 a02 u02 w0),(Jf k1 a10 u10 a11 u11 a12 u12 w1)] 0 0 [] []
abbrev aroD2_0_ok:Prop:=SegE (VN b1 b2 P n0 t0 n1 t1 n t cs ct q vq le k0 a00 a01 a02 u00 u01 u02 w0 k1 a10 a11 a12 u10 u11 u12 w1) .stop (.call (.builtin "max") ⟨[.ref (n+6)],[]⟩) 7 4 [] [0,7,8,9,10,11,12,13,14] ([(n+6,listO [.int 0 (t+1),.int a00 u00,.int a10 u10] 0),(n1+4,cellO (.int 0 (t+0))),(n1+3,dctO [] 0),(n1+2,listO [] 0),(n1+1,rgO 1 2),(Yv n0),(qJ n0 k0 k1 le),(YX k0 a00 u00 a01 u01 a02 u02 w0),(Jf k1 a10 u10 a11 u11 a12 u12 w1)])
def KD:Bool->List Nat
 | true=>oC [Jc,[7,0,1,0],KY,dO 18 0x1840c100060018206060c181060c503]
 | false=>oC [Jc,dO 10 0x18006001830004007,KY,dO 18 0x1840c100060018206060c181060c503]
def VM:Out:=let xr:=(VN b1 b2 P n0 t0 n1 t1 n2 t2 cs ct q vq le k0 a00 a01 a02 u00 u01 u02 w0 k1 a10 a11 a12 u10 u11 u12 w1).res;ev (bS b1 b2 P n t) 182 (KD b2) [] xr.c (xr.k (.ok (.ret (.int M0 m0)))) xr.K xr.d [(n1+4,cellO (.int 0 (t2+0))),(n1+3,dctO [] 0),(n1+2,listO [] 0),(n1+1,rgO 1 2),(Yv n0),(qJ n0 k0 k1 le),(YX k0 a00 u00 a01 u01 a02 u02 w0),(Jf k1 a10 u10 a11 u11 a12 u12 w1)] 0 0 [] []
abbrev aroD2_1_ok:Prop:=SegE (VM b1 b2 P n0 t0 n1 t1 n2 t2 n t cs ct q vq le k0 a00 a01 a02 u00 u01 u02 w0 k1 a10 a11 a12 u10 u11 u12 w1 M0 m0) .stop (.call (.builtin "max") ⟨[.ref (n+6)],[]⟩) 7 4 [] [0,7,8,9,10,11,12,13,14] ([(n+6,listO [.int 0 (t+1),.int a01 u01,.int a11 u11] 0),(n1+4,cellO (.int 1 (t+0))),(n1+3,dctO [] 0),(qH n1 M0 m0),(n1+1,rgO 2 1),(Yv n0),(qJ n0 k0 k1 le),(YX k0 a00 u00 a01 u01 a02 u02 w0),(Jf k1 a10 u10 a11 u11 a12 u12 w1)])
def KC:Bool->List Nat
 | true=>oC [Jc,[7,0,1,0],KY,dO 18 0x1840c100060018206060c181060c503]
 | false=>oC [Jc,dO 10 0x18006001830004007,KY,dO 18 0x1840c100060018206060c181060c503]
def VL:Out:=let xr:=(VM b1 b2 P n0 t0 n1 t1 n2 t2 n3 t3 cs ct q vq le k0 a00 a01 a02 u00 u01 u02 w0 k1 a10 a11 a12 u10 u11 u12 w1 M0 m0).res;ev (bS b1 b2 P n t) 182 (KC b2) [] xr.c (xr.k (.ok (.ret (.int M1 m1)))) xr.K xr.d [(n1+4,cellO (.int 1 (t3+0))),(n1+3,dctO [] 0),(qH n1 M0 m0),(n1+1,rgO 2 1),(Yv n0),(qJ n0 k0 k1 le),(YX k0 a00 u00 a01 u01 a02 u02 w0),(Jf k1 a10 u10 a11 u11 a12 u12 w1)] 0 0 [] []
abbrev aroD2_2_ok:Prop:=SegE (VL b1 b2 P n0 t0 n1 t1 n2 t2 n3 t3 n t cs ct q vq le k0 a00 a01 a02 u00 u01 u02 w0 k1 a10 a11 a12 u10 u11 u12 w1 M0 m0 M1 m1) .stop (.call (.builtin "max") ⟨[.ref (n+6)],[]⟩) 7 4 [] [0,7,8,9,10,11,12,13,14] ([(n+6,listO [.int 0 (t+1),.int a02 u02,.int a12 u12] 0),(n1+4,cellO (.int 2 (t+0))),(n1+3,dctO [] 0),(qL n1 M0 m0 M1 m1),(n1+1,rgO 3 0),(Yv n0),(qJ n0 k0 k1 le),(YX k0 a00 u00 a01 u01 a02 u02 w0),(Jf k1 a10 u10 a11 u11 a12 u12 w1)])
def KB:Bool->List Nat
 | true=>dO 15 0x4204080020008001830600180
 | false=>dO 15 0x4204080020008001830600180
def LI:Out:=let xr:=(VL b1 b2 P n0 t0 n1 t1 n2 t2 n3 t3 n4 t4 cs ct q vq le k0 a00 a01 a02 u00 u01 u02 w0 k1 a10 a11 a12 u10 u11 u12 w1 M0 m0 M1 m1).res;ev (bS b1 b2 P n t) 29 (KB b2) [] xr.c (xr.k (.ok (.ret (.int M2 m2)))) xr.K xr.d [(n1+4,cellO (.int 2 (t4+0))),(n1+3,dctO [] 0),(qL n1 M0 m0 M1 m1),(n1+1,rgO 3 0),(Yv n0),(qJ n0 k0 k1 le),(YX k0 a00 u00 a01 u01 a02 u02 w0),(Jf k1 a10 u10 a11 u11 a12 u12 w1)] 0 0 [] []
abbrev aroD2_3_ok:Prop:=XD (LI b1 b2 P n0 t0 n1 t1 n2 t2 n3 t3 n4 t4 n t cs ct q vq le k0 a00 a01 a02 u00 u01 u02 w0 k1 a10 a11 a12 u10 u11 u12 w1 M0 m0 M1 m1 M2 m2) 2 0 [] [3,4,6,7,8,9] ([(n1+3,dctO [] 0),(n1+2,listO [.int M0 m0,.int M1 m1,.int M2 m2] 3),(Yv n0),(qJ n0 k0 k1 le),(YX k0 a00 u00 a01 u01 a02 u02 w0),(Jf k1 a10 u10 a11 u11 a12 u12 w1)])
end
end

section
variable(b1 b2:Bool)(P:Params)
def KA:Bool->List Nat
 | true=>oC [dO 24 0x4007001c3860000081081020408102000800200,KY,Bc]
 | false=>oC [HQ,[0,3],KY,Bc]
section
variable(n0 t0 n1 t1 n2 t2 n3 t3 n4 t4 n t:Nat)(cs ct:Addr)(q:Nat)(vq:Value)(le:Nat)(k0:Addr)(a00 a01 a02:Int)(u00 u01 u02 w0:Nat)(k1:Addr)(a10 a11 a12:Int)(u10 u11 u12 w1:Nat)(k2:Addr)(a20 a21 a22:Int)(u20 u21 u22 w2:Nat)(M0:Int)(m0:Nat)(M1:Int)(m1:Nat)(M2:Int)(m2:Nat)
abbrev qO n0 k0 k1 k2 le:=((n0+6,listO [.ref k0,.ref k1,.ref k2] le):Xp)
abbrev qG k2 a20 u20 a21 u21 a22 u22 w2:=((k2,listO [.int a20 u20,.int a21 u21,.int a22 u22] w2):Xp)
def VK:Out:=let xc:=(BW b1 b2 P n0 t0 n1 t1 cs ct q vq).res.callee;ev (bS b1 b2 P n t) 224 (KA b2) [] xc (denF xc) [] 0 [(n1+4,XA),(n1+3,dctO [] 0),(n1+2,listO [] 0),(n1+1,rgO 0 3),(Yv n0),(qO n0 k0 k1 k2 le),(YX k0 a00 u00 a01 u01 a02 u02 w0),(Jf k1 a10 u10 a11 u11 a12 u12 w1),(qG k2 a20 u20 a21 u21 a22 u22 w2)] 0 0 [] []
abbrev aroD3_0_ok:Prop:=SegE (VK b1 b2 P n0 t0 n1 t1 n t cs ct q vq le k0 a00 a01 a02 u00 u01 u02 w0 k1 a10 a11 a12 u10 u11 u12 w1 k2 a20 a21 a22 u20 u21 u22 w2) .stop (.call (.builtin "max") ⟨[.ref (n+6)],[]⟩) 7 5 [] [0,7,8,9,10,11,12,13,14,15] ([(n+6,listO [.int 0 (t+1),.int a00 u00,.int a10 u10,.int a20 u20] 0),(n1+4,cellO (.int 0 (t+0))),(n1+3,dctO [] 0),(n1+2,listO [] 0),(n1+1,rgO 1 2),(Yv n0),(qO n0 k0 k1 k2 le),(YX k0 a00 u00 a01 u01 a02 u02 w0),(Jf k1 a10 u10 a11 u11 a12 u12 w1),(qG k2 a20 u20 a21 u21 a22 u22 w2)])
def Kz:Bool->List Nat
 | true=>oC [Jc,[7,0,1,0],KY,Bc]
 | false=>oC [Jc,dO 10 0x18006001830004007,KY,Bc]
def VJ:Out:=let xr:=(VK b1 b2 P n0 t0 n1 t1 n2 t2 cs ct q vq le k0 a00 a01 a02 u00 u01 u02 w0 k1 a10 a11 a12 u10 u11 u12 w1 k2 a20 a21 a22 u20 u21 u22 w2).res;ev (bS b1 b2 P n t) 221 (Kz b2) [] xr.c (xr.k (.ok (.ret (.int M0 m0)))) xr.K xr.d [(n1+4,cellO (.int 0 (t2+0))),(n1+3,dctO [] 0),(n1+2,listO [] 0),(n1+1,rgO 1 2),(Yv n0),(qO n0 k0 k1 k2 le),(YX k0 a00 u00 a01 u01 a02 u02 w0),(Jf k1 a10 u10 a11 u11 a12 u12 w1),(qG k2 a20 u20 a21 u21 a22 u22 w2)] 0 0 [] []
abbrev aroD3_1_ok:Prop:=SegE (VJ b1 b2 P n0 t0 n1 t1 n2 t2 n t cs ct q vq le k0 a00 a01 a02 u00 u01 u02 w0 k1 a10 a11 a12 u10 u11 u12 w1 k2 a20 a21 a22 u20 u21 u22 w2 M0 m0) .stop (.call (.builtin "max") ⟨[.ref (n+6)],[]⟩) 7 5 [] [0,7,8,9,10,11,12,13,14,15] ([(n+6,listO [.int 0 (t+1),.int a01 u01,.int a11 u11,.int a21 u21] 0),(n1+4,cellO (.int 1 (t+0))),(n1+3,dctO [] 0),(qH n1 M0 m0),(n1+1,rgO 2 1),(Yv n0),(qO n0 k0 k1 k2 le),(YX k0 a00 u00 a01 u01 a02 u02 w0),(Jf k1 a10 u10 a11 u11 a12 u12 w1),(qG k2 a20 u20 a21 u21 a22 u22 w2)])
def Ky:Bool->List Nat
 | true=>oC [Jc,[7,0,1,0],KY,Bc]
 | false=>oC [Jc,dO 10 0x18006001830004007,KY,Bc]
def VH:Out:=let xr:=(VJ b1 b2 P n0 t0 n1 t1 n2 t2 n3 t3 cs ct q vq le k0 a00 a01 a02 u00 u01 u02 w0 k1 a10 a11 a12 u10 u11 u12 w1 k2 a20 a21 a22 u20 u21 u22 w2 M0 m0).res;ev (bS b1 b2 P n t) 221 (Ky b2) [] xr.c (xr.k (.ok (.ret (.int M1 m1)))) xr.K xr.d [(n1+4,cellO (.int 1 (t3+0))),(n1+3,dctO [] 0),(qH n1 M0 m0),(n1+1,rgO 2 1),(Yv n0),(qO n0 k0 k1 k2 le),(YX k0 a00 u00 a01 u01 a02 u02 w0),(Jf k1 a10 u10 a11 u11 a12 u12 w1),(qG k2 a20 u20 a21 u21 a22 u22 w2)] 0 0 [] []
abbrev aroD3_2_ok:Prop:=SegE (VH b1 b2 P n0 t0 n1 t1 n2 t2 n3 t3 n t cs ct q vq le k0 a00 a01 a02 u00 u01 u02 w0 k1 a10 a11 a12 u10 u11 u12 w1 k2 a20 a21 a22 u20 u21 u22 w2 M0 m0 M1 m1) .stop (.call (.builtin "max") ⟨[.ref (n+6)],[]⟩) 7 5 [] [0,7,8,9,10,11,12,13,14,15] ([(n+6,listO [.int 0 (t+1),.int a02 u02,.int a12 u12,.int a22 u22] 0),(n1+4,cellO (.int 2 (t+0))),(n1+3,dctO [] 0),(qL n1 M0 m0 M1 m1),(n1+1,rgO 3 0),(Yv n0),(qO n0 k0 k1 k2 le),(YX k0 a00 u00 a01 u01 a02 u02 w0),(Jf k1 a10 u10 a11 u11 a12 u12 w1),(qG k2 a20 u20 a21 u21 a22 u22 w2)])
def Kx:Bool->List Nat
 | true=>dO 15 0x4204080020008001830600180
 | false=>dO 15 0x4204080020008001830600180
def LH:Out:=let xr:=(VH b1 b2 P n0 t0 n1 t1 n2 t2 n3 t3 n4 t4 cs ct q vq le k0 a00 a01 a02 u00 u01 u02 w0 k1 a10 a11 a12 u10 u11 u12 w1 k2 a20 a21 a22 u20 u21 u22 w2 M0 m0 M1 m1).res;ev (bS b1 b2 P n t) 29 (Kx b2) [] xr.c (xr.k (.ok (.ret (.int M2 m2)))) xr.K xr.d [(n1+4,cellO (.int 2 (t4+0))),(n1+3,dctO [] 0),(qL n1 M0 m0 M1 m1),(n1+1,rgO 3 0),(Yv n0),(qO n0 k0 k1 k2 le),(YX k0 a00 u00 a01 u01 a02 u02 w0),(Jf k1 a10 u10 a11 u11 a12 u12 w1),(qG k2 a20 u20 a21 u21 a22 u22 w2)] 0 0 [] []
abbrev aroD3_3_ok:Prop:=XD (LH b1 b2 P n0 t0 n1 t1 n2 t2 n3 t3 n4 t4 n t cs ct q vq le k0 a00 a01 a02 u00 u01 u02 w0 k1 a10 a11 a12 u10 u11 u12 w1 k2 a20 a21 a22 u20 u21 u22 w2 M0 m0 M1 m1 M2 m2) 2 0 [] [3,4,6,7,8,9,10] ([(n1+3,dctO [] 0),(n1+2,listO [.int M0 m0,.int M1 m1,.int M2 m2] 3),(Yv n0),(qO n0 k0 k1 k2 le),(YX k0 a00 u00 a01 u01 a02 u02 w0),(Jf k1 a10 u10 a11 u11 a12 u12 w1),(qG k2 a20 u20 a21 u21 a22 u22 w2)])
end
abbrev A7(a b:Nat)(c d:Addr):Prop:=∀e f g h i j k l m n o p q r s t u v w x y z,aroBTTT_ok b1 b2 P a b e f c d g h i j k l m n o p q r s t u v w x y z
abbrev A6(a b:Nat)(c d:Addr):Prop:=∀e f g h i j k l m n o p q r s t u v w x y z,aroBTTF_s b1 b2 P a b e f c d g h i j k l m n o p q r s t u v w x y z
abbrev A5(a b:Nat)(c d:Addr):Prop:=∀e f g h i j k l m n o p q r s t u v w x y z,aroBTFT_s b1 b2 P a b e f c d g h i j k l m n o p q r s t u v w x y z
abbrev A4(a b:Nat)(c d:Addr):Prop:=∀e f g h i j k l m n o p q r s t u v w x y z,aroBTFF_s b1 b2 P a b e f c d g h i j k l m n o p q r s t u v w x y z
abbrev A3(a b:Nat)(c d:Addr):Prop:=∀e f g h i j k l m n o p q r s t u v w x y z,aroBFTT_s b1 b2 P a b e f c d g h i j k l m n o p q r s t u v w x y z
abbrev A2(a b:Nat)(c d:Addr):Prop:=∀e f g h i j k l m n o p q r s t u v w x y z,aroBFTF_s b1 b2 P a b e f c d g h i j k l m n o p q r s t u v w x y z
abbrev A1(a b:Nat)(c d:Addr):Prop:=∀e f g h i j k l m n o p q r s t u v w x y z,aroBFFT_s b1 b2 P a b e f c d g h i j k l m n o p q r s t u v w x y z
abbrev A0(a b:Nat)(c d:Addr):Prop:=∀e f g h i j k l m n o p q r s t u v w x y z,aroBFFF_s b1 b2 P a b e f c d g h i j k l m n o p q r s t u v w x y z
abbrev taro10(a b e f i j:Nat)(c d:Addr)(g:Nat)(h:Value)(k:Nat):Prop:=∀l m n o,aroD0_1_ok b1 b2 P a b e f i j l m c d g h k n o/\∀p q r s,aroD0_2_ok b1 b2 P a b e f i j l m p q c d g h k n o r s/\∀t u v w,aroD0_3_ok b1 b2 P a b e f i j l m p q t u c d g h k n o r s v w
abbrev taro9(a b e f:Nat)(c d:Addr)(g:Nat)(h:Value):Prop:=∀i j k,aroD0_0_ok b1 b2 P a b e f i j c d g h k/\taro10 b1 b2 P a b e f i j c d g h k
abbrev taro12(a b e f i j:Nat)(c d:Addr)(g:Nat)(h:Value)(k:Nat)(l:Addr)(m n o:Int)(p q r s:Nat):Prop:=∀t u v w,aroD1_1_ok b1 b2 P a b e f i j t u c d g h k l m n o p q r s v w/\∀x y z A,aroD1_2_ok b1 b2 P a b e f i j t u x y c d g h k l m n o p q r s v w z A/\∀B C D E,aroD1_3_ok b1 b2 P a b e f i j t u x y B C c d g h k l m n o p q r s v w z A D E
abbrev taro11(a b e f:Nat)(c d:Addr)(g:Nat)(h:Value):Prop:=∀i j k l m n o p q r s,aroD1_0_ok b1 b2 P a b e f i j c d g h k l m n o p q r s/\taro12 b1 b2 P a b e f i j c d g h k l m n o p q r s
abbrev taro14(a b e f i j:Nat)(c d:Addr)(g:Nat)(h:Value)(k:Nat)(l:Addr)(m n o:Int)(p q r s:Nat)(t:Addr)(u v w:Int)(x y z A:Nat):Prop:=∀B C D E,aroD2_1_ok b1 b2 P a b e f i j B C c d g h k l m n o p q r s t u v w x y z A D E/\∀F G H I,aroD2_2_ok b1 b2 P a b e f i j B C F G c d g h k l m n o p q r s t u v w x y z A D E H I/\∀J K L M,aroD2_3_ok b1 b2 P a b e f i j B C F G J K c d g h k l m n o p q r s t u v w x y z A D E H I L M
abbrev taro13(a b e f:Nat)(c d:Addr)(g:Nat)(h:Value):Prop:=∀i j k l m n o p q r s t u v w x y z A,aroD2_0_ok b1 b2 P a b e f i j c d g h k l m n o p q r s t u v w x y z A/\taro14 b1 b2 P a b e f i j c d g h k l m n o p q r s t u v w x y z A
abbrev taro16(a b e f i j:Nat)(c d:Addr)(g:Nat)(h:Value)(k:Nat)(l:Addr)(m n o:Int)(p q r s:Nat)(t:Addr)(u v w:Int)(x y z A:Nat)(B:Addr)(C D E:Int)(F G H I:Nat):Prop:=∀J K L M,aroD3_1_ok b1 b2 P a b e f i j J K c d g h k l m n o p q r s t u v w x y z A B C D E F G H I L M/\∀N O Q R,aroD3_2_ok b1 b2 P a b e f i j J K N O c d g h k l m n o p q r s t u v w x y z A B C D E F G H I L M Q R/\∀S T U V,aroD3_3_ok b1 b2 P a b e f i j J K N O S T c d g h k l m n o p q r s t u v w x y z A B C D E F G H I L M Q R U V
abbrev taro15(a b e f:Nat)(c d:Addr)(g:Nat)(h:Value):Prop:=∀i j k l m n o p q r s t u v w x y z A B C D E F G H I,aroD3_0_ok b1 b2 P a b e f i j c d g h k l m n o p q r s t u v w x y z A B C D E F G H I/\taro16 b1 b2 P a b e f i j c d g h k l m n o p q r s t u v w x y z A B C D E F G H I
abbrev Sq(a b:Nat)(c d:Addr):Prop:=∀e f g h,(∀i j,aroE_ok b1 b2 P a b e f i j c d g h)/\taro9 b1 b2 P a b e f c d g h/\taro11 b1 b2 P a b e f c d g h/\taro13 b1 b2 P a b e f c d g h/\taro15 b1 b2 P a b e f c d g h
theorem JS(a b:Nat)(c d:Addr):A7 b1 b2 P a b c d/\A6 b1 b2 P a b c d/\A5 b1 b2 P a b c d/\A4 b1 b2 P a b c d/\A3 b1 b2 P a b c d/\A2 b1 b2 P a b c d/\A1 b1 b2 P a b c d/\A0 b1 b2 P a b c d/\Sq b1 b2 P a b c d:=
 ⟨fun _ _ _ _ _ _ _ _ _ _ _ _ _ _ _ _ _ _ _ _ _ _=>gT,fun _ _ _ _ _ _ _ _ _ _ _ _ _ _ _ _ _ _ _ _ _ _=>gT,fun _ _ _ _ _ _ _ _ _ _ _ _ _ _ _ _ _ _ _ _ _ _=>gT,fun _ _ _ _ _ _ _ _ _ _ _ _ _ _ _ _ _ _ _ _ _ _=>gT,fun _ _ _ _ _ _ _ _ _ _ _ _ _ _ _ _ _ _ _ _ _ _=>gT,fun _ _ _ _ _ _ _ _ _ _ _ _ _ _ _ _ _ _ _ _ _ _=>gT,fun _ _ _ _ _ _ _ _ _ _ _ _ _ _ _ _ _ _ _ _ _ _=>gT,fun _ _ _ _ _ _ _ _ _ _ _ _ _ _ _ _ _ _ _ _ _ _=>gT,fun _ _ _ _=>⟨fun _ _=>gO,fun _ _ _=>⟨gT,fun _ _ _ _=>⟨gT,fun _ _ _ _=>⟨gT,fun _ _ _ _=>gT⟩⟩⟩,fun _ _ _ _ _ _ _ _ _ _ _=>⟨gT,fun _ _ _ _=>⟨gT,fun _ _ _ _=>⟨gT,fun _ _ _ _=>gT⟩⟩⟩,fun _ _ _ _ _ _ _ _ _ _ _ _ _ _ _ _ _ _ _=>⟨gT,fun _ _ _ _=>⟨gT,fun _ _ _ _=>⟨gT,fun _ _ _ _=>gT⟩⟩⟩,fun _ _ _ _ _ _ _ _ _ _ _ _ _ _ _ _ _ _ _ _ _ _ _ _ _ _ _=>⟨gT,fun _ _ _ _=>⟨gT,fun _ _ _ _=>⟨gT,fun _ _ _ _=>gT⟩⟩⟩⟩⟩
section
variable(a b e f i j:Nat)(c d:Addr)(g:Nat)(h:Value)(k:Nat)(l:Addr)(m n o:Int)(p q r s:Nat)(t:Addr)(u v w:Int)(x y z A:Nat)(B:Addr)(C D E:Int)(F G H I:Nat)
theorem qT:Sq b1 b2 P a b c d:=(JS ..).2.2.2.2.2.2.2.2
theorem DE:taro9 b1 b2 P a b e f c d g h:=(qT _ ..).2.1
theorem M8:taro10 b1 b2 P a b e f i j c d g h k:=(DE _ ..).2
theorem Ws:taro11 b1 b2 P a b e f c d g h:=(qT _ ..).2.2.1
theorem M7:taro12 b1 b2 P a b e f i j c d g h k l m n o p q r s:=(Ws _ ..).2
theorem Wr:taro13 b1 b2 P a b e f c d g h:=(qT _ ..).2.2.2.1
theorem M6:taro14 b1 b2 P a b e f i j c d g h k l m n o p q r s t u v w x y z A:=(Wr _ ..).2
theorem Wq:taro15 b1 b2 P a b e f c d g h:=(qT _ ..).2.2.2.2
theorem M5:taro16 b1 b2 P a b e f i j c d g h k l m n o p q r s t u v w x y z A B C D E F G H I:=(Wq _ ..).2
end
section
variable(n0 t0 n t:Nat)(cs ct r0 r1 r2:Addr)(es:Nat)(c0 c1 c2:Int)(tc0 tc1 tc2 ec:Nat)(v0 v1 v2:List Value)(e0 e1 e2:Nat)(x0 x1 x2:Addr)
theorem Na:aroBTTF_s b1 b2 P n0 t0 n t cs ct r0 r1 r2 es c0 c1 c2 tc0 tc1 tc2 ec v0 v1 v2 e0 e1 e2 x0 x1 x2:=((JS ..).2.1 _ ..)
theorem Nb:aroBTFT_s b1 b2 P n0 t0 n t cs ct r0 r1 r2 es c0 c1 c2 tc0 tc1 tc2 ec v0 v1 v2 e0 e1 e2 x0 x1 x2:=((JS ..).2.2.1 _ ..)
theorem Nc:aroBTFF_s b1 b2 P n0 t0 n t cs ct r0 r1 r2 es c0 c1 c2 tc0 tc1 tc2 ec v0 v1 v2 e0 e1 e2 x0 x1 x2:=((JS ..).2.2.2.1 _ ..)
theorem Nd:aroBFTT_s b1 b2 P n0 t0 n t cs ct r0 r1 r2 es c0 c1 c2 tc0 tc1 tc2 ec v0 v1 v2 e0 e1 e2 x0 x1 x2:=((JS ..).2.2.2.2.1 _ ..)
theorem Nf:aroBFTF_s b1 b2 P n0 t0 n t cs ct r0 r1 r2 es c0 c1 c2 tc0 tc1 tc2 ec v0 v1 v2 e0 e1 e2 x0 x1 x2:=((JS ..).2.2.2.2.2.1 _ ..)
theorem Ng:aroBFFT_s b1 b2 P n0 t0 n t cs ct r0 r1 r2 es c0 c1 c2 tc0 tc1 tc2 ec v0 v1 v2 e0 e1 e2 x0 x1 x2:=((JS ..).2.2.2.2.2.2.1 _ ..)
theorem Nh:aroBFFF_s b1 b2 P n0 t0 n t cs ct r0 r1 r2 es c0 c1 c2 tc0 tc1 tc2 ec v0 v1 v2 e0 e1 e2 x0 x1 x2:=((JS ..).2.2.2.2.2.2.2.1 _ ..)
end
end

section
variable(b1 b2:Bool)(P:Params)
noncomputable def Out.obj(o:Out)(j:Nat):Data:=match o.led[j]? with
 | some p=>p.2.data
 | none=>.fields ⟨[]⟩
def Out.flds(o:Out)(j:Nat):List Value:=match o.obj j with
 | .fields xs=>xs.toList
 | _=>[]
def UP(o:Out):Value:=match o.flds 1 with
 | x::_=>x
 | _=>.none
noncomputable def US(o:Out):Str:=match o.flds 1 with
 | _::.str q _::_=>q
 | _=>⟨⟨[]⟩⟩
def UQ(o:Out):Nat:=match o.flds 1 with
 | _::.str _ u::_=>u
 | _=>0
def UR(o:Out):List Value:=(o.flds 1).drop 2
def UT(o:Out):Value:=match o.led[1]? with
 | some p=>p.2.cls
 | none=>.none
def Out.fd(o:Out)(j:Nat):Option FuncData:=match o.obj j with
 | .func fd=>some fd
 | _=>none
def ES:List Nat:=dO 16 0x604003000c18200000810408000
section
variable(n0 t0 n t:Nat)(cs ct r0 r1 r2:Addr)(es:Nat)
def Ht:Out:=
 let xc:Code:=.call (.ref 242) ⟨[.ref cs,.ref ct],[]⟩;ev (bS b1 b2 P n t) 34 ES [] xc (XQ xc) [] 0 [(XL cs r0 r1 r2 es)] 0 0 [] []
theorem qZ:qW (Ht b1 b2 P n t cs ct r0 r1 r2 es) 5 1 [] [0,1,2,3,4,5] ([(n+4,dctO [] 0),(n+3,listO [] 0),(n+2,itO cs 0),(n+1,cellO (.ref ct)),(n+0,frameO [kn27 P (t+0) (.ref cs)] 1),(XL cs r0 r1 r2 es)]):=lO
def LY:Bool->List Nat
 | true=>dO 24 0x600000003870e100008002041830c0c1800600180
 | false=>dO 30 0x180000000e1c384000200081060c303060018006001800600183
abbrev Jg n0(P:Params) t0 cs:=((n0+0,frameO [kn27 P (t0+0) (.ref cs)] 1):Xp)
def Jz:Out:=let xc:=(Ht b1 b2 P n0 t0 cs ct r0 r1 r2 es).res.callee;ev (bS b1 b2 P n t) 66 (LY b2) [] xc (denF xc) [] 0 [(n0+4,dctO [] 0),(n0+3,listO [] 0),(n0+2,itO cs 0),(n0+1,cellO (.ref ct)),(Jg n0 P t0 cs),(XL cs r0 r1 r2 es),(239,i239)] 0 0 [] []
end
noncomputable def H9(P:Params):FuncData:=((Jz true true P 300 0 400 0 300 301 302 303 304 0).fd 0).getD {name:=⟨⟨[]⟩⟩,qualname:=⟨⟨[]⟩⟩,params:=⟨[],[],none,[],[],none,[]⟩,body:=.stmts [],scope:={kind:=.function,names:=[],isGenerator:=false,isCoroutine:=false},globals:=0,closure:=[],defaults:=.none,kwdefaults:=.none}
noncomputable abbrev JK(P:Params)(kc cl tup:Addr):FuncData:={H9 P with code:=.ref kc,closure:=[(⟨⟨[99,117,116]⟩⟩,cl)],closureTuple:=.ref tup}
section
variable(n0 t0 n1 t1 n2 t2 n3 t3 n t:Nat)(la ck cs ct r0 r1 r2:Addr)(es q:Nat)(vq:Value)(kc cl tup:Addr)(K x0:Value)(qn:Str)(uq:Nat)(rest:List Value)(b:Bool)(k0:Int)(u0:Nat)(k1:Int)(u1:Nat)(k2:Int)(u2:Nat)
theorem K6:Seg (Jz b1 b2 P n0 t0 n t cs ct r0 r1 r2 es) .stop (.call (.ref 47) ⟨[.ref r0,.bool true],[((⟨⟨[107,101,121]⟩⟩:Str),.ref (n+7))]⟩) 8 8 [] [0,1,8,9,10,11,12,13,14] ([(n+7,qE (JK P (n+6) (n0+1) (n+0))),(n+6,YH (UT (Jz b1 b2 P n0 t0 n t cs ct r0 r1 r2 es)) (UP (Jz b1 b2 P n0 t0 n t cs ct r0 r1 r2 es)) (US (Jz b1 b2 P n0 t0 n t cs ct r0 r1 r2 es)) (UQ (Jz b1 b2 P n0 t0 n t cs ct r0 r1 r2 es)) (UR (Jz b1 b2 P n0 t0 n t cs ct r0 r1 r2 es))),(n0+4,dctO [kn21 P (t+0) (.ref r0)] 1),(n0+3,listO [] 0),(n0+2,itO cs 1),(n0+1,cellO (.ref ct)),(Jg n0 P t0 cs),(XL cs r0 r1 r2 es),(239,Ze (n+6))]):=Seg.of (by cases b1<;>cases b2<;>kernel_rfl)
def LX:Bool->List Nat
 | true=>oC [FN,[3]]
 | false=>oC [FN,[3]]
def R8:Out:=let xr:=(Jz b1 b2 P n0 t0 n1 t1 cs ct r0 r1 r2 es).res;ev (bS b1 b2 P n t) 47 (LX b2) [] xr.c (xr.k (.ok (.ret (.int k0 u0)))) xr.K xr.d [(n0+4,dctO [kn21 P (t1+0) (.ref r0)] 1),(n0+3,listO [] 0),(n0+2,itO cs 1),(n0+1,cellO (.ref ct)),(Jg n0 P t0 cs),(XL cs r0 r1 r2 es),(239,Ze kc),(kc,YH K x0 qn uq rest)] 0 0 [] []
abbrev N7 n(P:Params) kc n0:=((n+1,qE (JK P kc (n0+1) (n+0))):Xp)
abbrev De n(P:Params) kc n0 t1 r1 k0 u0 cs ct t0 r0 r2 es K x0 qn uq rest:=([(N7 n P kc n0),(n0+4,dctO [kn21 P (t1+0) (.ref r1)] 1),(n0+3,listO [.int k0 u0] 1),(n0+2,itO cs 2),(n0+1,cellO (.ref ct)),(Jg n0 P t0 cs),(XL cs r0 r1 r2 es),(239,Ze kc),(kc,YH K x0 qn uq rest)]:ZQ)
abbrev witFC_ok:Prop:=SegE (R8 b1 b2 P n0 t0 n1 t1 n t cs ct r0 r1 r2 es kc K x0 qn uq rest k0 u0) .stop (.call (.ref 47) ⟨[.ref r1,.bool true],[((⟨⟨[107,101,121]⟩⟩:Str),.ref (n+1))]⟩) 2 1 [] [0,2,3,4,5,6,7,8,9]
  ((De n P kc n0 t1 r1 k0 u0 cs ct t0 r0 r2 es K x0 qn uq rest))
def LV:Bool->List Nat
 | true=>oC [FN,[3]]
 | false=>oC [FN,[3]]
def R7:Out:=let xr:=(R8 b1 b2 P n0 t0 n1 t1 n2 t2 cs ct r0 r1 r2 es kc K x0 qn uq rest k0 u0).res;ev (bS b1 b2 P n t) 47 (LV b2) [] xr.c (xr.k (.ok (.ret (.int k1 u1)))) xr.K xr.d [(n0+4,dctO [kn21 P (t1+0) (.ref r1)] 1),(n0+3,listO [.int k0 u0] 1),(n0+2,itO cs 2),(n0+1,cellO (.ref ct)),(Jg n0 P t0 cs),(XL cs r0 r1 r2 es),(239,Ze kc),(kc,YH K x0 qn uq rest)] 0 0 [] []
abbrev QE n0(P:Params) t1 r2:=((n0+4,dctO [kn21 P (t1+0) (.ref r2)] 1):Xp)
abbrev witFD_ok:Prop:=SegE (R7 b1 b2 P n0 t0 n1 t1 n2 t2 n t cs ct r0 r1 r2 es kc K x0 qn uq rest k0 u0 k1 u1) .stop (.call (.ref 47) ⟨[.ref r2,.bool true],[((⟨⟨[107,101,121]⟩⟩:Str),.ref (n+1))]⟩) 2 1 [] [0,2,3,4,5,6,7,8,9] ([(N7 n P kc n0),(QE n0 P t1 r2),(n0+3,listO [.int k0 u0,.int k1 u1] 2),(n0+2,itO cs 3),(n0+1,cellO (.ref ct)),(Jg n0 P t0 cs),(XL cs r0 r1 r2 es),(239,Ze kc),(kc,YH K x0 qn uq rest)])
def LU:Bool->List Nat
 | true=>dO 17 0x1060c303060018006001020400100
 | false=>dO 17 0x1060c303060018006001020400100
def AG:Out:=let xr:=(R7 b1 b2 P n0 t0 n1 t1 n2 t2 n3 t3 cs ct r0 r1 r2 es kc K x0 qn uq rest k0 u0 k1 u1).res;ev (bS b1 b2 P n t) 31 (LU b2) [] xr.c (xr.k (.ok (.ret (.int k2 u2)))) xr.K xr.d [(QE n0 P t1 r2),(n0+3,listO [.int k0 u0,.int k1 u1] 2),(n0+2,itO cs 3),(n0+1,cellO (.ref ct)),(Jg n0 P t0 cs),(XL cs r0 r1 r2 es)] 0 0 [] []
abbrev witFE_ok:Prop:=XD (AG b1 b2 P n0 t0 n1 t1 n2 t2 n3 t3 n t cs ct r0 r1 r2 es kc K x0 qn uq rest k0 u0 k1 u1 k2 u2) 2 0 [] [2,3,6,7] ([(QE n0 P t1 r2),(n0+3,listO [.int k0 u0,.int k1 u1,.int k2 u2] 3),(Jg n0 P t0 cs),(XL cs r0 r1 r2 es)])
def L4:Bool->List Nat
 | true=>dO 21 0x30000000100008002041830c0c1800600180
 | false=>dO 27 0xc00000004000200081060c303060018006001800600183
def Sg:Out:=let xc:=(Ht b1 b2 P n0 t0 cs ct r0 r1 r2 es).res.callee;ev (bS b1 b2 P n t) 50 (L4 b2) [] xc (denF xc) [] 0 [(n0+4,dctO [] 0),(n0+3,listO [] 0),(n0+2,itO cs 0),(n0+1,cellO (.ref ct)),(Jg n0 P t0 cs),(XL cs r0 r1 r2 es),(239,Ze kc),(kc,YH K x0 qn uq rest)] 0 0 [] []
abbrev witCB_ok:Prop:=SegE (Sg b1 b2 P n0 t0 n t cs ct r0 r1 r2 es kc K x0 qn uq rest) .stop (.call (.ref 47) ⟨[.ref r0,.bool true],[((⟨⟨[107,101,121]⟩⟩:Str),.ref (n+1))]⟩) 2 1 [] [0,2,3,4,5,6,7,8,9] ([(N7 n P kc n0),(n0+4,dctO [kn21 P (t+0) (.ref r0)] 1),(n0+3,listO [] 0),(n0+2,itO cs 1),(n0+1,cellO (.ref ct)),(Jg n0 P t0 cs),(XL cs r0 r1 r2 es),(239,Ze kc),(kc,YH K x0 qn uq rest)])
def L3:Bool->List Nat
 | true=>oC [FN,[3]]
 | false=>oC [FN,[3]]
def Sf:Out:=let xr:=(Sg b1 b2 P n0 t0 n1 t1 cs ct r0 r1 r2 es kc K x0 qn uq rest).res;ev (bS b1 b2 P n t) 47 (L3 b2) [] xr.c (xr.k (.ok (.ret (.int k0 u0)))) xr.K xr.d [(n0+4,dctO [kn21 P (t1+0) (.ref r0)] 1),(n0+3,listO [] 0),(n0+2,itO cs 1),(n0+1,cellO (.ref ct)),(Jg n0 P t0 cs),(XL cs r0 r1 r2 es),(239,Ze kc),(kc,YH K x0 qn uq rest)] 0 0 [] []
abbrev witCC_ok:Prop:=SegE (Sf b1 b2 P n0 t0 n1 t1 n t cs ct r0 r1 r2 es kc K x0 qn uq rest k0 u0) .stop (.call (.ref 47) ⟨[.ref r1,.bool true],[((⟨⟨[107,101,121]⟩⟩:Str),.ref (n+1))]⟩) 2 1 [] [0,2,3,4,5,6,7,8,9]
  ((De n P kc n0 t1 r1 k0 u0 cs ct t0 r0 r2 es K x0 qn uq rest))
def L2:Bool->List Nat
 | true=>oC [FN,[3]]
 | false=>oC [FN,[3]]
def R9:Out:=let xr:=(Sf b1 b2 P n0 t0 n1 t1 n2 t2 cs ct r0 r1 r2 es kc K x0 qn uq rest k0 u0).res;ev (bS b1 b2 P n t) 47 (L2 b2) [] xr.c (xr.k (.ok (.ret (.int k1 u1)))) xr.K xr.d [(n0+4,dctO [kn21 P (t1+0) (.ref r1)] 1),(n0+3,listO [.int k0 u0] 1),(n0+2,itO cs 2),(n0+1,cellO (.ref ct)),(Jg n0 P t0 cs),(XL cs r0 r1 r2 es),(239,Ze kc),(kc,YH K x0 qn uq rest)] 0 0 [] []
abbrev witCD_ok:Prop:=SegE (R9 b1 b2 P n0 t0 n1 t1 n2 t2 n t cs ct r0 r1 r2 es kc K x0 qn uq rest k0 u0 k1 u1) .stop (.call (.ref 47) ⟨[.ref r2,.bool true],[((⟨⟨[107,101,121]⟩⟩:Str),.ref (n+1))]⟩) 2 1 [] [0,2,3,4,5,6,7,8,9] ([(N7 n P kc n0),(QE n0 P t1 r2),(n0+3,listO [.int k0 u0,.int k1 u1] 2),(n0+2,itO cs 3),(n0+1,cellO (.ref ct)),(Jg n0 P t0 cs),(XL cs r0 r1 r2 es),(239,Ze kc),(kc,YH K x0 qn uq rest)])
def LZ:Bool->List Nat
 | true=>dO 17 0x1060c303060018006001020400100
 | false=>dO 17 0x1060c303060018006001020400100
def AH:Out:=let xr:=(R9 b1 b2 P n0 t0 n1 t1 n2 t2 n3 t3 cs ct r0 r1 r2 es kc K x0 qn uq rest k0 u0 k1 u1).res;ev (bS b1 b2 P n t) 31 (LZ b2) [] xr.c (xr.k (.ok (.ret (.int k2 u2)))) xr.K xr.d [(QE n0 P t1 r2),(n0+3,listO [.int k0 u0,.int k1 u1] 2),(n0+2,itO cs 3),(n0+1,cellO (.ref ct)),(Jg n0 P t0 cs),(XL cs r0 r1 r2 es)] 0 0 [] []
abbrev witCE_ok:Prop:=XD (AH b1 b2 P n0 t0 n1 t1 n2 t2 n3 t3 n t cs ct r0 r1 r2 es kc K x0 qn uq rest k0 u0 k1 u1 k2 u2) 2 0 [] [2,3,6,7] ([(QE n0 P t1 r2),(n0+3,listO [.int k0 u0,.int k1 u1,.int k2 u2] 3),(Jg n0 P t0 cs),(XL cs r0 r1 r2 es)])
def ER:List Nat:=[1,1,1]
def witG:Out:=let xr:=(Ht b1 b2 P n0 t0 cs ct r0 r1 r2 es).res;ev (bS b1 b2 P n t) 11 ER [] xr.c (xr.k (.ok .next)) xr.K xr.d [(n0+4,dctO [kn21 P q vq] 1),(Jg n0 P t0 cs)] 0 0 [] []
abbrev witG_ok:Prop:=SegE (witG b1 b2 P n0 t0 n t cs ct r0 r1 r2 es q vq) (.flow (.ret (.ref (n0+3)))) (.call .none {}) 0 0 [] []
  ([])
def Ae:List Nat:=dO 11 0xc00402000000204101
def Cy:Out:=
 let xc:Code:=.call (.ref la) ⟨[.ref ck],[]⟩;ev (bS b1 b2 P n t) 24 Ae [] xc (XQ xc) [] 0 [(la,qE (JK P kc cl tup)),(kc,YH K x0 qn uq rest),(cl,cellO (.ref ct))] 0 0 [] []
abbrev La:Prop:=SegE (Cy b1 b2 P n t la ck ct kc cl tup K x0 qn uq rest) .stop (.call (.ref 237) ⟨[.ref ck,.ref ct],[]⟩) 1 1 [] [0,1,2,3] ([(n+0,frameO [Ee P (t+0) (.ref ck)] 1),(la,qE (JK P kc cl tup)),(kc,YH K x0 qn uq rest),(cl,cellO (.ref ct))])
def Ad:List Nat:=[]
def lamR:Out:=let xr:=(Cy b1 b2 P n0 t0 la ck ct kc cl tup K x0 qn uq rest).res;ev (bS b1 b2 P n t) 7 Ad [] xr.c (xr.k (.ok (.ret (.bool b)))) xr.K xr.d [(n0+0,frameO [Ee P (t0+0) (.ref ck)] 1)] 0 0 [] []
abbrev lamR_ok:Prop:=SegE (lamR b1 b2 P n0 t0 n t la ck ct kc cl tup K x0 qn uq rest b) (.flow (.ret (.bool b))) (.call .none {}) 0 0 [] []
  ([])
end
abbrev Si(a b:Nat)(c d e f g:Addr)(h:Nat):Prop:=∀i j k l m n o p q r s t,witFC_ok b1 b2 P a b i j k l c d e f g h m n o p q r s t/\∀u v w x,witFD_ok b1 b2 P a b i j k l u v c d e f g h m n o p q r s t w x/\∀y z A B,witFE_ok b1 b2 P a b i j k l u v y z c d e f g h m n o p q r s t w x A B
abbrev twit2(a b i j:Nat)(c d e f g:Addr)(h:Nat)(k:Addr)(l m:Value)(n:Str)(o:Nat)(p:List Value):Prop:=∀q r s t,witCC_ok b1 b2 P a b i j q r c d e f g h k l m n o p s t/\∀u v w x,witCD_ok b1 b2 P a b i j q r u v c d e f g h k l m n o p s t w x/\∀y z A B,witCE_ok b1 b2 P a b i j q r u v y z c d e f g h k l m n o p s t w x A B
abbrev Sh(a b:Nat)(c d e f g:Addr)(h:Nat):Prop:=∀i j k l m n o p,witCB_ok b1 b2 P a b i j c d e f g h k l m n o p/\twit2 b1 b2 P a b i j c d e f g h k l m n o p
abbrev AJ(a b:Nat)(c d e f g:Addr)(h:Nat):Prop:=∀i j k l,witG_ok b1 b2 P a b i j c d e f g h k l
theorem NY(a b:Nat)(c d e f g:Addr)(h:Nat):Si b1 b2 P a b c d e f g h/\Sh b1 b2 P a b c d e f g h/\AJ b1 b2 P a b c d e f g h:=
 ⟨fun _ _ _ _ _ _ _ _ _ _ _ _=>⟨gT,fun _ _ _ _=>⟨gT,fun _ _ _ _=>gT⟩⟩,fun _ _ _ _ _ _ _ _=>⟨gT,fun _ _ _ _=>⟨gT,fun _ _ _ _=>⟨gT,fun _ _ _ _=>gT⟩⟩⟩,fun _ _ _ _=>gO⟩
section
variable(a b i j:Nat)(c d e f g:Addr)(h:Nat)(k:Addr)(l m:Value)(n:Str)(o:Nat)(p:List Value)
theorem UL:Si b1 b2 P a b c d e f g h:=(NY ..).1
theorem Du:Sh b1 b2 P a b c d e f g h:=(NY ..).2.1
theorem UK:twit2 b1 b2 P a b i j c d e f g h k l m n o p:=(Du _ ..).2
end
theorem SI(a b:Nat)(c d e f g h:Addr)(i j:Value)(k:Str)(l:Nat)(m:List Value):La b1 b2 P a b c d e f g h i j k l m/\∀n o p,lamR_ok b1 b2 P a b n o c d e f g h i j k l m p:=
 ⟨gO,fun _ _ _=>gO⟩
end

section
variable(b1 b2:Bool)(P:Params)
def Am:List Nat:=dO 27 0xc081020808000040000200001020408102040810200000
section
variable(n0 t0 n1 t1 n t:Nat)(rw la:Addr)(vs:List Value)(evv:Nat)(nd:Int)(q0 q1 q2 q3 q4:Nat)(lo hi:Int)(ul uh q5:Nat)(vm:Value)(va:Addr)(fd:FuncData)
def qv:Out:=
 let xc:Code:=.call (.ref 47) ⟨[.ref rw,.bool true],[((⟨⟨[107,101,121]⟩⟩:Str),.ref la)]⟩;ev (bS b1 b2 P n t) 67 Am [{v:=VI nd (t+6+1),di:=2,rd:=[1]}] xc (XQ xc) [] 0 [(rw,listO vs evv)] 0 0 [] []
theorem yl:qW (qv b1 b2 P n t rw la vs evv nd) 1 9 [oB "len" [VR rw] (t+6) (n+1) (VI nd (t+6+1)) (di:=2) (rd:=[(rw,listO vs evv)])] [0,1] ([(n+0,frameO [JO P (t+0) (.ref rw),kn11 P (t+1) (.bool true),JN P (t+2) (.int 0 291),JM P (t+3) (.int nd (t+6+1)),JL P (t+4) (.ref la)] 5),(rw,listO vs evv)]):=lO
def RN:List Nat:=dO 18 0x1830408102020408102081010208081
abbrev Uk n0(P:Params) q0 rw q1 true q2 lo ul q3 hi uh q4 la:=((n0+0,frameO [JO P q0 (.ref rw),kn11 P q1 (.bool true),JN P q2 (.int lo ul),JM P q3 (.int hi uh),JL P q4 (.ref la)] 5):Xp)
def Wz:Out:=let xc:=(qv b1 b2 P n0 t0 rw la vs evv nd).res.callee;ev (bS b1 b2 P n t) 44 RN [{v:=Value.bool true},{v:=VI (lo+hi) (t+0),di:=1},{v:=VI ((lo+hi).fdiv 2) (t+2),di:=1},{v:=VR va,rd:=[1]}] xc (denF xc) [] 0 [(Uk n0 P q0 rw q1 true q2 lo ul q3 hi uh q4 la),(rw,listO vs evv),(la,qE fd)] 0 0 [] []
theorem Wy:Seg (Wz b1 b2 P n0 t0 n t rw la vs evv nd q0 q1 q2 q3 q4 lo hi ul uh va fd) .stop (.call (.ref la) ⟨[.ref va],[]⟩) 0 4 [oB "list.__getitem__" [VR rw,VI ((lo+hi).fdiv 2) (t+2)] (t+4) (n+0) (VR va) (rd:=[(rw,listO vs evv)]),oB "int.__floordiv__" [VI (lo+hi) (t+0),VI 2 (t+1)] (t+2) (n+0) (VI ((lo+hi).fdiv 2) (t+2)) (di:=1),oB "int.__add__" [VI lo ul,VI hi uh] (t+0) (n+0) (VI (lo+hi) (t+0)) (di:=1),oB "int.__lt__" [VI lo ul,VI hi uh] (t+0) (n+0) (Value.bool true)] [0,1,2] ([(n0+0,frameO [JO P q0 (.ref rw),kn11 P q1 (.bool true),JN P q2 (.int lo ul),JM P q3 (.int hi uh),JL P q4 (.ref la),kn15 P (t+3) (.int ((lo+hi).fdiv 2) (t+2))] 6),(rw,listO vs evv),(la,qE fd)]):=sO
def RU:List Nat:=dO 7 0x80810200001
def C0:Out:=let xr:=(Wz b1 b2 P n0 t0 n1 t1 rw la vs evv nd q0 q1 q2 q3 q4 lo hi ul uh va fd).res;ev (bS b1 b2 P n t) 24 RU [] xr.c (xr.k (.ok (.ret (.bool true)))) xr.K xr.d [(n0+0,frameO [JO P q0 (.ref rw),kn11 P q1 (.bool true),JN P q2 (.int lo ul),JM P q3 (.int hi uh),JL P q4 (.ref la),kn15 P (t1+3) (.int ((lo+hi).fdiv 2) (t1+2))] 6)] 0 0 [] []
theorem WF:Seg (C0 b1 b2 P n0 t0 n1 t1 n t rw la vs evv nd q0 q1 q2 q3 q4 lo hi ul uh va fd) (.again) ((qv b1 b2 P n0 t0 rw la vs evv nd).res.callee) 0 1 [] [0] ([(n0+0,frameO [JO P q0 (.ref rw),kn11 P q1 (.bool true),JN P q2 (.int lo ul),JM P q3 (.int ((lo+hi).fdiv 2) (t1+2)),JL P q4 (.ref la),kn15 P (t1+3) (.int ((lo+hi).fdiv 2) (t1+2))] 6)]):=sO
def RS:List Nat:=dO 8 0x4040820200001
def CY:Out:=let xr:=(Wz b1 b2 P n0 t0 n1 t1 rw la vs evv nd q0 q1 q2 q3 q4 lo hi ul uh va fd).res;ev (bS b1 b2 P n t) 27 RS [{v:=VI ((lo+hi).fdiv 2+1) (t+1),di:=1}] xr.c (xr.k (.ok (.ret (.bool false)))) xr.K xr.d [(n0+0,frameO [JO P q0 (.ref rw),kn11 P q1 (.bool true),JN P q2 (.int lo ul),JM P q3 (.int hi uh),JL P q4 (.ref la),kn15 P (t1+3) (.int ((lo+hi).fdiv 2) (t1+2))] 6)] 0 0 [] []
theorem WD:Seg (CY b1 b2 P n0 t0 n1 t1 n t rw la vs evv nd q0 q1 q2 q3 q4 lo hi ul uh va fd) (.again) ((qv b1 b2 P n0 t0 rw la vs evv nd).res.callee) 0 3 [oB "int.__add__" [VI ((lo+hi).fdiv 2) (t1+2),VI 1 (t+0)] (t+1) (n+0) (VI ((lo+hi).fdiv 2+1) (t+1)) (di:=1)] [0] ([(n0+0,frameO [JO P q0 (.ref rw),kn11 P q1 (.bool true),JN P q2 (.int ((lo+hi).fdiv 2+1) (t+1)),JM P q3 (.int hi uh),JL P q4 (.ref la),kn15 P (t1+3) (.int ((lo+hi).fdiv 2) (t1+2))] 6)]):=sO
def RW:List Nat:=[1,1,2]
def C6:Out:=let xc:=(qv b1 b2 P n0 t0 rw la vs evv nd).res.callee;ev (bS b1 b2 P n t) 13 RW [{v:=Value.bool false}] xc (denF xc) [] 0 [(Uk n0 P q0 rw q1 true q2 lo ul q3 hi uh q4 la)] 0 0 [] []
theorem WG:Ni (C6 b1 b2 P n0 t0 n t rw la vs evv nd q0 q1 q2 q3 q4 lo hi ul uh) 0 0 [oB "int.__lt__" [VI lo ul,VI hi uh] (t+0) (n+0) (Value.bool false)] [0] ([(Uk n0 P q0 rw q1 true q2 lo ul q3 hi uh q4 la)]):=sO
def RP:List Nat:=[1]
def CW:Out:=let xr:=(qv b1 b2 P n0 t0 rw la vs evv nd).res;ev (bS b1 b2 P n t) 9 RP [] xr.c (xr.k (.ok .next)) xr.K xr.d [(Uk n0 P q0 rw q1 true q2 lo ul q3 hi uh q4 la)] 0 0 [] []
theorem WB:Seg (CW b1 b2 P n0 t0 n t rw la vs evv nd q0 q1 q2 q3 q4 lo hi ul uh) (.flow (.ret (.int lo ul))) (.call .none {}) 0 0 [] [0] ([(Uk n0 P q0 rw q1 true q2 lo ul q3 hi uh q4 la)]):=sO
def RM:List Nat:=dO 18 0x1830408102020408102081010208081
abbrev Ul n0(P:Params) q0 rw q1 true q2 lo ul q3 hi uh q4 la q5 vm:=((n0+0,frameO [JO P q0 (.ref rw),kn11 P q1 (.bool true),JN P q2 (.int lo ul),JM P q3 (.int hi uh),JL P q4 (.ref la),kn15 P q5 vm] 6):Xp)
def Wx:Out:=let xc:=(qv b1 b2 P n0 t0 rw la vs evv nd).res.callee;ev (bS b1 b2 P n t) 44 RM [{v:=Value.bool true},{v:=VI (lo+hi) (t+0),di:=1},{v:=VI ((lo+hi).fdiv 2) (t+2),di:=1},{v:=VR va,rd:=[1]}] xc (denF xc) [] 0 [(Ul n0 P q0 rw q1 true q2 lo ul q3 hi uh q4 la q5 vm),(rw,listO vs evv),(la,qE fd)] 0 0 [] []
theorem Ww:Seg (Wx b1 b2 P n0 t0 n t rw la vs evv nd q0 q1 q2 q3 q4 lo hi ul uh q5 vm va fd) .stop (.call (.ref la) ⟨[.ref va],[]⟩) 0 4 [oB "list.__getitem__" [VR rw,VI ((lo+hi).fdiv 2) (t+2)] (t+4) (n+0) (VR va) (rd:=[(rw,listO vs evv)]),oB "int.__floordiv__" [VI (lo+hi) (t+0),VI 2 (t+1)] (t+2) (n+0) (VI ((lo+hi).fdiv 2) (t+2)) (di:=1),oB "int.__add__" [VI lo ul,VI hi uh] (t+0) (n+0) (VI (lo+hi) (t+0)) (di:=1),oB "int.__lt__" [VI lo ul,VI hi uh] (t+0) (n+0) (Value.bool true)] [0,1,2] ([(n0+0,frameO [JO P q0 (.ref rw),kn11 P q1 (.bool true),JN P q2 (.int lo ul),JM P q3 (.int hi uh),JL P q4 (.ref la),kn15 P q5 (.int ((lo+hi).fdiv 2) (t+2))] 6),(rw,listO vs evv),(la,qE fd)]):=sO
def RT:List Nat:=dO 7 0x80810200001
def CZ:Out:=let xr:=(Wx b1 b2 P n0 t0 n1 t1 rw la vs evv nd q0 q1 q2 q3 q4 lo hi ul uh q5 vm va fd).res;ev (bS b1 b2 P n t) 24 RT [] xr.c (xr.k (.ok (.ret (.bool true)))) xr.K xr.d [(n0+0,frameO [JO P q0 (.ref rw),kn11 P q1 (.bool true),JN P q2 (.int lo ul),JM P q3 (.int hi uh),JL P q4 (.ref la),kn15 P q5 (.int ((lo+hi).fdiv 2) (t1+2))] 6)] 0 0 [] []
theorem WE:Seg (CZ b1 b2 P n0 t0 n1 t1 n t rw la vs evv nd q0 q1 q2 q3 q4 lo hi ul uh q5 vm va fd) (.again) ((qv b1 b2 P n0 t0 rw la vs evv nd).res.callee) 0 1 [] [0] ([(n0+0,frameO [JO P q0 (.ref rw),kn11 P q1 (.bool true),JN P q2 (.int lo ul),JM P q3 (.int ((lo+hi).fdiv 2) (t1+2)),JL P q4 (.ref la),kn15 P q5 (.int ((lo+hi).fdiv 2) (t1+2))] 6)]):=sO
def RQ:List Nat:=dO 8 0x4040820200001
def CX:Out:=let xr:=(Wx b1 b2 P n0 t0 n1 t1 rw la vs evv nd q0 q1 q2 q3 q4 lo hi ul uh q5 vm va fd).res;ev (bS b1 b2 P n t) 27 RQ [{v:=VI ((lo+hi).fdiv 2+1) (t+1),di:=1}] xr.c (xr.k (.ok (.ret (.bool false)))) xr.K xr.d [(n0+0,frameO [JO P q0 (.ref rw),kn11 P q1 (.bool true),JN P q2 (.int lo ul),JM P q3 (.int hi uh),JL P q4 (.ref la),kn15 P q5 (.int ((lo+hi).fdiv 2) (t1+2))] 6)] 0 0 [] []
theorem WC:Seg (CX b1 b2 P n0 t0 n1 t1 n t rw la vs evv nd q0 q1 q2 q3 q4 lo hi ul uh q5 vm va fd) (.again) ((qv b1 b2 P n0 t0 rw la vs evv nd).res.callee) 0 3 [oB "int.__add__" [VI ((lo+hi).fdiv 2) (t1+2),VI 1 (t+0)] (t+1) (n+0) (VI ((lo+hi).fdiv 2+1) (t+1)) (di:=1)] [0] ([(n0+0,frameO [JO P q0 (.ref rw),kn11 P q1 (.bool true),JN P q2 (.int ((lo+hi).fdiv 2+1) (t+1)),JM P q3 (.int hi uh),JL P q4 (.ref la),kn15 P q5 (.int ((lo+hi).fdiv 2) (t1+2))] 6)]):=sO
def RV:List Nat:=[1,1,2]
def C3:Out:=let xc:=(qv b1 b2 P n0 t0 rw la vs evv nd).res.callee;ev (bS b1 b2 P n t) 13 RV [{v:=Value.bool false}] xc (denF xc) [] 0 [(Ul n0 P q0 rw q1 true q2 lo ul q3 hi uh q4 la q5 vm)] 0 0 [] []
theorem GN:Ni (C3 b1 b2 P n0 t0 n t rw la vs evv nd q0 q1 q2 q3 q4 lo hi ul uh q5 vm) 0 0 [oB "int.__lt__" [VI lo ul,VI hi uh] (t+0) (n+0) (Value.bool false)] [0] ([(Ul n0 P q0 rw q1 true q2 lo ul q3 hi uh q4 la q5 vm)]):=sO
def RO:List Nat:=[1]
def CU:Out:=let xr:=(qv b1 b2 P n0 t0 rw la vs evv nd).res;ev (bS b1 b2 P n t) 9 RO [] xr.c (xr.k (.ok .next)) xr.K xr.d [(Ul n0 P q0 rw q1 true q2 lo ul q3 hi uh q4 la q5 vm)] 0 0 [] []
theorem WA:Seg (CU b1 b2 P n0 t0 n t rw la vs evv nd q0 q1 q2 q3 q4 lo hi ul uh q5 vm) (.flow (.ret (.int lo ul))) (.call .none {}) 0 0 [] [0] ([(Ul n0 P q0 rw q1 true q2 lo ul q3 hi uh q4 la q5 vm)]):=sO
end
end

section
variable(b1 b2:Bool)(P:Params)
def Ao:List Nat:=dO 30 0x1810204080020008102000800204000000000000000810408000
section
variable(n0 t0 n1 t1 n t:Nat)(cl ct:Addr)(q:Nat)(vq:Value)(e:Nat)(a0 a1 a2 c0 c1 c2:Int)(ta0 ta1 ta2 tc0 tc1 tc2 ea ec:Nat)
def qw:Out:=
 let xc:Code:=.call (.ref 237) ⟨[.ref cl,.ref ct],[]⟩;ev (bS b1 b2 P n t) 57 Ao [] xc (XQ xc) [] 0 [] 0 0 [] []
theorem VG:qW (qw b1 b2 P n t cl ct) 7 3 [] [0,1,2,4,5,6] ([(n+6,dctO [] 0),(n+5,listO [] 0),(n+4,rgO 0 3),(n+2,cellO (.ref ct)),(n+1,cellO (.ref cl)),(n+0,frameO [] 0)]):=lO
def Kp:Bool->List Nat
 | true=>oC [Y0,dO 14 0x102040010002083800e00387,Y0,dO 14 0x102040010002083800e00387,Y0,dO 23 0x418306001800600102040010002083800e00387]
 | false=>oC [dO 6 0x1800600183,Y0,dO 14 0x102040010002083800e00387,Y0,dO 14 0x102040010002083800e00387,Y0,dO 23 0x418306001800600102040010002083800e00387]
abbrev Jm cl a0 ta0 a1 ta1 a2 ta2 ea:=((cl,listO [.int a0 ta0,.int a1 ta1,.int a2 ta2] ea):Xp)
abbrev Gy n0 ct cl a0 ta0 a1 ta1 a2 ta2 ea c0 tc0 c1 tc1 c2 tc2 ec:=([(n0+6,dctO [] 0),(n0+5,listO [] 0),(n0+4,rgO 0 3),(n0+2,cellO (.ref ct)),(n0+1,cellO (.ref cl)),(Jm cl a0 ta0 a1 ta1 a2 ta2 ea),(Zl ct c0 tc0 c1 tc1 c2 tc2 ec)]:ZQ)
def Lx:Out:=let xc:=(qw b1 b2 P n0 t0 cl ct).res.callee;ev (bS b1 b2 P n t) 212 (Kp b2) [{v:=Value.bool true},{v:=Value.bool true},{v:=Value.bool true}] xc (denF xc) [] 0 (Gy n0 ct cl a0 ta0 a1 ta1 a2 ta2 ea c0 tc0 c1 tc1 c2 tc2 ec) 0 0 [] []
abbrev Gd n0(P:Params) t:=((n0+6,dctO [kn9 P (t+1) (.int 2 (t+4))] 1):Xp)
abbrev beyCTTT_ok:Prop:=XD (Lx b1 b2 P n0 t0 n t cl ct a0 a1 a2 c0 c1 c2 ta0 ta1 ta2 tc0 tc1 tc2 ea ec) 2 6 [oB "int.__gt__" [VI a2 ta2,VI c2 tc2] (t+6) (n+0) (Value.bool true),oB "int.__gt__" [VI a1 ta1,VI c1 tc1] (t+4) (n+0) (Value.bool true),oB "int.__gt__" [VI a0 ta0,VI c0 tc0] (t+2) (n+0) (Value.bool true)] [2,3,7,8] ([(Gd n0 P t),(n0+5,listO [.int 0 (t+0),.int 1 (t+2),.int 2 (t+4)] 3),(Jm cl a0 ta0 a1 ta1 a2 ta2 ea),(Zl ct c0 tc0 c1 tc1 c2 tc2 ec)])
def Kq:Bool->List Nat
 | true=>oC [Y0,dO 14 0x102040010002083800e00387,Y0,dO 14 0x102040010002083800e00387,Y0,dO 16 0x20c183000c00300083800e00387]
 | false=>oC [dO 6 0x1800600183,Y0,dO 14 0x102040010002083800e00387,Y0,dO 14 0x102040010002083800e00387,Y0,dO 16 0x20c183000c00300083800e00387]
def Ly:Out:=let xc:=(qw b1 b2 P n0 t0 cl ct).res.callee;ev (bS b1 b2 P n t) 203 (Kq b2) [{v:=Value.bool true},{v:=Value.bool true},{v:=Value.bool false}] xc (denF xc) [] 0 (Gy n0 ct cl a0 ta0 a1 ta1 a2 ta2 ea c0 tc0 c1 tc1 c2 tc2 ec) 0 0 [] []
abbrev beyCTTF_ok:Prop:=XD (Ly b1 b2 P n0 t0 n t cl ct a0 a1 a2 c0 c1 c2 ta0 ta1 ta2 tc0 tc1 tc2 ea ec) 2 6 [oB "int.__gt__" [VI a2 ta2,VI c2 tc2] (t+6) (n+0) (Value.bool false),oB "int.__gt__" [VI a1 ta1,VI c1 tc1] (t+4) (n+0) (Value.bool true),oB "int.__gt__" [VI a0 ta0,VI c0 tc0] (t+2) (n+0) (Value.bool true)] [2,3,7,8] ([(Gd n0 P t),(n0+5,listO [.int 0 (t+0),.int 1 (t+2)] 2),(Jm cl a0 ta0 a1 ta1 a2 ta2 ea),(Zl ct c0 tc0 c1 tc1 c2 tc2 ec)])
def Kr:Bool->List Nat
 | true=>oC [Y0,dO 14 0x102040010002083800e00387,Y0,dO 7 0x83800e00387,Y0,dO 23 0x418306001800600102040010002083800e00387]
 | false=>oC [dO 6 0x1800600183,Y0,dO 14 0x102040010002083800e00387,Y0,dO 7 0x83800e00387,Y0,dO 23 0x418306001800600102040010002083800e00387]
def Lz:Out:=let xc:=(qw b1 b2 P n0 t0 cl ct).res.callee;ev (bS b1 b2 P n t) 203 (Kr b2) [{v:=Value.bool true},{v:=Value.bool false},{v:=Value.bool true}] xc (denF xc) [] 0 (Gy n0 ct cl a0 ta0 a1 ta1 a2 ta2 ea c0 tc0 c1 tc1 c2 tc2 ec) 0 0 [] []
abbrev beyCTFT_ok:Prop:=XD (Lz b1 b2 P n0 t0 n t cl ct a0 a1 a2 c0 c1 c2 ta0 ta1 ta2 tc0 tc1 tc2 ea ec) 2 6 [oB "int.__gt__" [VI a2 ta2,VI c2 tc2] (t+6) (n+0) (Value.bool true),oB "int.__gt__" [VI a1 ta1,VI c1 tc1] (t+4) (n+0) (Value.bool false),oB "int.__gt__" [VI a0 ta0,VI c0 tc0] (t+2) (n+0) (Value.bool true)] [2,3,7,8] ([(Gd n0 P t),(n0+5,listO [.int 0 (t+0),.int 2 (t+4)] 2),(Jm cl a0 ta0 a1 ta1 a2 ta2 ea),(Zl ct c0 tc0 c1 tc1 c2 tc2 ec)])
def Ks:Bool->List Nat
 | true=>oC [Y0,dO 14 0x102040010002083800e00387,Y0,dO 7 0x83800e00387,Y0,dO 16 0x20c183000c00300083800e00387]
 | false=>oC [dO 6 0x1800600183,Y0,dO 14 0x102040010002083800e00387,Y0,dO 7 0x83800e00387,Y0,dO 16 0x20c183000c00300083800e00387]
def LA:Out:=let xc:=(qw b1 b2 P n0 t0 cl ct).res.callee;ev (bS b1 b2 P n t) 194 (Ks b2) [{v:=Value.bool true},{v:=Value.bool false},{v:=Value.bool false}] xc (denF xc) [] 0 (Gy n0 ct cl a0 ta0 a1 ta1 a2 ta2 ea c0 tc0 c1 tc1 c2 tc2 ec) 0 0 [] []
abbrev beyCTFF_ok:Prop:=XD (LA b1 b2 P n0 t0 n t cl ct a0 a1 a2 c0 c1 c2 ta0 ta1 ta2 tc0 tc1 tc2 ea ec) 2 6 [oB "int.__gt__" [VI a2 ta2,VI c2 tc2] (t+6) (n+0) (Value.bool false),oB "int.__gt__" [VI a1 ta1,VI c1 tc1] (t+4) (n+0) (Value.bool false),oB "int.__gt__" [VI a0 ta0,VI c0 tc0] (t+2) (n+0) (Value.bool true)] [2,3,7,8] ([(Gd n0 P t),(n0+5,listO [.int 0 (t+0)] 1),(Jm cl a0 ta0 a1 ta1 a2 ta2 ea),(Zl ct c0 tc0 c1 tc1 c2 tc2 ec)])
def Kt:Bool->List Nat
 | true=>oC [Y0,dO 7 0x83800e00387,Y0,dO 14 0x102040010002083800e00387,Y0,dO 23 0x418306001800600102040010002083800e00387]
 | false=>oC [dO 6 0x1800600183,Y0,dO 7 0x83800e00387,Y0,dO 14 0x102040010002083800e00387,Y0,dO 23 0x418306001800600102040010002083800e00387]
def LB:Out:=let xc:=(qw b1 b2 P n0 t0 cl ct).res.callee;ev (bS b1 b2 P n t) 203 (Kt b2) [{v:=Value.bool false},{v:=Value.bool true},{v:=Value.bool true}] xc (denF xc) [] 0 (Gy n0 ct cl a0 ta0 a1 ta1 a2 ta2 ea c0 tc0 c1 tc1 c2 tc2 ec) 0 0 [] []
abbrev beyCFTT_ok:Prop:=XD (LB b1 b2 P n0 t0 n t cl ct a0 a1 a2 c0 c1 c2 ta0 ta1 ta2 tc0 tc1 tc2 ea ec) 2 6 [oB "int.__gt__" [VI a2 ta2,VI c2 tc2] (t+6) (n+0) (Value.bool true),oB "int.__gt__" [VI a1 ta1,VI c1 tc1] (t+4) (n+0) (Value.bool true),oB "int.__gt__" [VI a0 ta0,VI c0 tc0] (t+2) (n+0) (Value.bool false)] [2,3,7,8] ([(Gd n0 P t),(n0+5,listO [.int 1 (t+2),.int 2 (t+4)] 2),(Jm cl a0 ta0 a1 ta1 a2 ta2 ea),(Zl ct c0 tc0 c1 tc1 c2 tc2 ec)])
def Ku:Bool->List Nat
 | true=>oC [Y0,dO 7 0x83800e00387,Y0,dO 14 0x102040010002083800e00387,Y0,dO 16 0x20c183000c00300083800e00387]
 | false=>oC [dO 6 0x1800600183,Y0,dO 7 0x83800e00387,Y0,dO 14 0x102040010002083800e00387,Y0,dO 16 0x20c183000c00300083800e00387]
def LC:Out:=let xc:=(qw b1 b2 P n0 t0 cl ct).res.callee;ev (bS b1 b2 P n t) 194 (Ku b2) [{v:=Value.bool false},{v:=Value.bool true},{v:=Value.bool false}] xc (denF xc) [] 0 (Gy n0 ct cl a0 ta0 a1 ta1 a2 ta2 ea c0 tc0 c1 tc1 c2 tc2 ec) 0 0 [] []
abbrev beyCFTF_ok:Prop:=XD (LC b1 b2 P n0 t0 n t cl ct a0 a1 a2 c0 c1 c2 ta0 ta1 ta2 tc0 tc1 tc2 ea ec) 2 6 [oB "int.__gt__" [VI a2 ta2,VI c2 tc2] (t+6) (n+0) (Value.bool false),oB "int.__gt__" [VI a1 ta1,VI c1 tc1] (t+4) (n+0) (Value.bool true),oB "int.__gt__" [VI a0 ta0,VI c0 tc0] (t+2) (n+0) (Value.bool false)] [2,3,7,8] ([(Gd n0 P t),(n0+5,listO [.int 1 (t+2)] 1),(Jm cl a0 ta0 a1 ta1 a2 ta2 ea),(Zl ct c0 tc0 c1 tc1 c2 tc2 ec)])
def Kv:Bool->List Nat
 | true=>oC [Y0,dO 7 0x83800e00387,Y0,dO 7 0x83800e00387,Y0,dO 23 0x418306001800600102040010002083800e00387]
 | false=>oC [dO 6 0x1800600183,Y0,dO 7 0x83800e00387,Y0,dO 7 0x83800e00387,Y0,dO 23 0x418306001800600102040010002083800e00387]
def LD:Out:=let xc:=(qw b1 b2 P n0 t0 cl ct).res.callee;ev (bS b1 b2 P n t) 194 (Kv b2) [{v:=Value.bool false},{v:=Value.bool false},{v:=Value.bool true}] xc (denF xc) [] 0 (Gy n0 ct cl a0 ta0 a1 ta1 a2 ta2 ea c0 tc0 c1 tc1 c2 tc2 ec) 0 0 [] []
abbrev beyCFFT_ok:Prop:=XD (LD b1 b2 P n0 t0 n t cl ct a0 a1 a2 c0 c1 c2 ta0 ta1 ta2 tc0 tc1 tc2 ea ec) 2 6 [oB "int.__gt__" [VI a2 ta2,VI c2 tc2] (t+6) (n+0) (Value.bool true),oB "int.__gt__" [VI a1 ta1,VI c1 tc1] (t+4) (n+0) (Value.bool false),oB "int.__gt__" [VI a0 ta0,VI c0 tc0] (t+2) (n+0) (Value.bool false)] [2,3,7,8] ([(Gd n0 P t),(n0+5,listO [.int 2 (t+4)] 1),(Jm cl a0 ta0 a1 ta1 a2 ta2 ea),(Zl ct c0 tc0 c1 tc1 c2 tc2 ec)])
def Kw:Bool->List Nat
 | true=>oC [Y0,dO 7 0x83800e00387,Y0,dO 7 0x83800e00387,Y0,dO 16 0x20c183000c00300083800e00387]
 | false=>oC [dO 6 0x1800600183,Y0,dO 7 0x83800e00387,Y0,dO 7 0x83800e00387,Y0,dO 16 0x20c183000c00300083800e00387]
def LE:Out:=let xc:=(qw b1 b2 P n0 t0 cl ct).res.callee;ev (bS b1 b2 P n t) 185 (Kw b2) [{v:=Value.bool false},{v:=Value.bool false},{v:=Value.bool false}] xc (denF xc) [] 0 (Gy n0 ct cl a0 ta0 a1 ta1 a2 ta2 ea c0 tc0 c1 tc1 c2 tc2 ec) 0 0 [] []
abbrev beyCFFF_ok:Prop:=XD (LE b1 b2 P n0 t0 n t cl ct a0 a1 a2 c0 c1 c2 ta0 ta1 ta2 tc0 tc1 tc2 ea ec) 2 6 [oB "int.__gt__" [VI a2 ta2,VI c2 tc2] (t+6) (n+0) (Value.bool false),oB "int.__gt__" [VI a1 ta1,VI c1 tc1] (t+4) (n+0) (Value.bool false),oB "int.__gt__" [VI a0 ta0,VI c0 tc0] (t+2) (n+0) (Value.bool false)] [2,3,7,8] ([(Gd n0 P t),(n0+5,listO [] 0),(Jm cl a0 ta0 a1 ta1 a2 ta2 ea),(Zl ct c0 tc0 c1 tc1 c2 tc2 ec)])
def An:List Nat:=[1,1,1]
def LG:Out:=let xr:=(qw b1 b2 P n0 t0 cl ct).res;ev (bS b1 b2 P n t) 14 An [] xr.c (xr.k (.ok .next)) xr.K xr.d [(n0+6,dctO [kn9 P q vq] 1),(n0+0,frameO [] 0)] 0 0 [] []
theorem LF:Seg (LG b1 b2 P n0 t0 n t cl ct q vq) (.hold) (.call .none {}) 1 0 [] [0,2] ([(n+0,listO [] 0),(n0+0,frameO [] 0)]):=sO
theorem WH:DG (LG b1 b2 P n0 t0 n t cl ct q vq).res.hk:=by
 cases b1<;>(
  iterate 8
   apply Fj
   (case e=>intro ss;with_unfolding_all rfl)
  apply Fk;intro ss
  with_unfolding_all rfl)
def RX:List Nat:=dO 14 0x82020800104040020008082
def C7:Out:=let xr:=(LG b1 b2 P n0 t0 n1 t1 cl ct q vq).res;ev (bS b1 b2 P n t) 23 RX [] xr.c (xr.hk []) xr.K xr.d [(n1+0,listO [] 0),(n0+5,listO [] e),(n0+0,frameO [] 0)] 0 0 [] []
abbrev beyDn_ok:Prop:=SegE (C7 b1 b2 P n0 t0 n1 t1 n t cl ct q vq e) (.flow (.ret (.bool false))) (.call .none {}) 0 0 [] []
  ([])
end
def RY:List Nat:=dO 9 0x104040020008082
section
variable(n0 t0 n1 t1 n t:Nat)(cl ct:Addr)(q:Nat)(vq v:Value)(r:List Value)(e:Nat)
def C8:Out:=let xr:=(LG b1 b2 P n0 t0 n1 t1 cl ct q vq).res;ev (bS b1 b2 P n t) 19 RY [] xr.c (xr.hk []) xr.K xr.d [(n1+0,listO [] 0),(n0+5,listO (v::r) e),(n0+0,frameO [] 0)] 0 0 [] []
abbrev beyDc_ok:Prop:=SegE (C8 b1 b2 P n0 t0 n1 t1 n t cl ct q vq v r e) (.flow (.ret (.bool true))) (.call .none {}) 0 0 [] []
  ([])
end
abbrev AZ(a b:Nat)(c d:Addr):Prop:=∀e f g h i j k l m n o p q r s t,beyCTTT_ok b1 b2 P a b e f c d g h i j k l m n o p q r s t
abbrev AY(a b:Nat)(c d:Addr):Prop:=∀e f g h i j k l m n o p q r s t,beyCTTF_ok b1 b2 P a b e f c d g h i j k l m n o p q r s t
abbrev AX(a b:Nat)(c d:Addr):Prop:=∀e f g h i j k l m n o p q r s t,beyCTFT_ok b1 b2 P a b e f c d g h i j k l m n o p q r s t
abbrev AW(a b:Nat)(c d:Addr):Prop:=∀e f g h i j k l m n o p q r s t,beyCTFF_ok b1 b2 P a b e f c d g h i j k l m n o p q r s t
abbrev AV(a b:Nat)(c d:Addr):Prop:=∀e f g h i j k l m n o p q r s t,beyCFTT_ok b1 b2 P a b e f c d g h i j k l m n o p q r s t
abbrev AU(a b:Nat)(c d:Addr):Prop:=∀e f g h i j k l m n o p q r s t,beyCFTF_ok b1 b2 P a b e f c d g h i j k l m n o p q r s t
abbrev AS(a b:Nat)(c d:Addr):Prop:=∀e f g h i j k l m n o p q r s t,beyCFFT_ok b1 b2 P a b e f c d g h i j k l m n o p q r s t
abbrev AR(a b:Nat)(c d:Addr):Prop:=∀e f g h i j k l m n o p q r s t,beyCFFF_ok b1 b2 P a b e f c d g h i j k l m n o p q r s t
abbrev AQ(a b:Nat)(c d:Addr):Prop:=∀e f g h,(∀i j k,beyDn_ok b1 b2 P a b e f i j c d g h k)/\∀i j k l m,beyDc_ok b1 b2 P a b e f i j c d g h k l m
theorem Jj(a b:Nat)(c d:Addr):AZ b1 b2 P a b c d/\AY b1 b2 P a b c d/\AX b1 b2 P a b c d/\AW b1 b2 P a b c d/\AV b1 b2 P a b c d/\AU b1 b2 P a b c d/\AS b1 b2 P a b c d/\AR b1 b2 P a b c d/\AQ b1 b2 P a b c d:=
 ⟨fun _ _ _ _ _ _ _ _ _ _ _ _ _ _ _ _=>gT,fun _ _ _ _ _ _ _ _ _ _ _ _ _ _ _ _=>gT,fun _ _ _ _ _ _ _ _ _ _ _ _ _ _ _ _=>gT,fun _ _ _ _ _ _ _ _ _ _ _ _ _ _ _ _=>gT,fun _ _ _ _ _ _ _ _ _ _ _ _ _ _ _ _=>gT,fun _ _ _ _ _ _ _ _ _ _ _ _ _ _ _ _=>gT,fun _ _ _ _ _ _ _ _ _ _ _ _ _ _ _ _=>gT,fun _ _ _ _ _ _ _ _ _ _ _ _ _ _ _ _=>gT,fun _ _ _ _=>⟨fun _ _ _=>gO,fun _ _ _ _ _=>gO⟩⟩
end

section
variable(b1 b2:Bool)(P:Params)
def WT:List Nat:=dO 18 0x1810010004080c18304080000204000
section
variable(n0 t0 n t:Nat)(nl:Addr)(ns:List Value)(ne k:Nat)(ds cs:List Value)(ed ec q0 q1 q2:Nat)(x:Int)(tx:Nat)(cj:Int)(uj:Nat)(ci:Int)(ui:Nat)
def Yq:Out:=
 let xc:Code:=.call (.ref 208) ⟨[.ref nl],[]⟩;ev (bS b1 b2 P n t) 52 WT [] xc (XQ xc) [] 0 [(nl,listO ns ne)] 0 0 [] []
theorem Zt:qW (Yq b1 b2 P n t nl ns ne) 4 6 [] [0,1,2,3,4] ([(n+3,itO nl 0),(n+2,listO [] 0),(n+1,listO [.int 0 (t+1),.int 0 (t+2),.int 0 (t+3)] 0),(n+0,frameO [FV P (t+0) (.ref nl),Qo P (t+4) (.ref (n+1)),kn1 P (t+5) (.ref (n+2))] 3),(nl,listO ns ne)]):=lO
def Nu:List Nat:=dO 50 0x10204081040810202040c1820408103060c1020408102040c18304081020408102040810204081020408101
abbrev Vc ds n ed:=((4,listO (ds++[VR (n+0)]) (ed+1)):Xp)
abbrev SX n0 nl k(P:Params) q0 q1 q2 cs ec ds ed ns ne:=([(n0+3,itO nl k),(n0+0,frameO [FV P q0 (.ref nl),Qo P q1 (.ref (n0+1)),kn1 P q2 (.ref (n0+2))] 3),(n0+1,listO cs ec),(n0+2,listO ds ed),(nl,listO ns ne)]:ZQ)
def Ui:Out:=let xc:=(Yq b1 b2 P n0 t0 nl ns ne).res.callee;ev (bS b1 b2 P n t) 120 Nu [{v:=VI x tx,rd:=[4],w:=some (0,itO nl (↑k+1))},{v:=VI (x.fmod 3) (t+2),di:=1},{v:=VI (x.fdiv 3) (t+5),di:=1},{v:=VI ((x.fdiv 3).fmod 3) (t+7),di:=1},{v:=Value.bool true},{v:=VI (x.fdiv 9) (t+10),di:=1},{v:=VI cj uj,rd:=[2]},{v:=VI (cj+1) (t+12),di:=1},{v:=VI ((x.fdiv 9).fmod (cj+1)) (t+13),di:=1},{v:=VI ci ui,rd:=[2]},{v:=VI (ci+1) (t+16),di:=1},{v:=Value.none,w:=some (2,listO (cs.set (x.fmod 3).toNat (VI (ci+1) (t+16))) ec)},{v:=Value.none,w:=some (Vc ds n ed)}] xc (denF xc) [] 0 (SX n0 nl k P q0 q1 q2 cs ec ds ed ns ne) 0 0 [] []
abbrev Ve n0 ds n ed:=((n0+2,listO (ds++[.ref (n+0)]) (ed+1)):Xp)
theorem Gb:Seg (Ui b1 b2 P n0 t0 n t nl ns ne k ds cs ed ec q0 q1 q2 x tx cj uj ci ui) (.again) ((Yq b1 b2 P n0 t0 nl ns ne).res.callee) 1 17 [oB "list.append" [VR (n0+2),VR (n+0)] (t+17) (n+1) Value.none (w:=some (n0+2,listO ds ed,listO (ds++[VR (n+0)]) (ed+1))),oB "list.__setitem__" [VR (n0+1),VI (x.fmod 3) (t+2),VI (ci+1) (t+16)] (t+17) (n+0) Value.none (w:=some (n0+1,listO cs ec,listO (cs.set (x.fmod 3).toNat (VI (ci+1) (t+16))) ec)),oB "int.__add__" [VI ci ui,VI 1 (t+15)] (t+16) (n+0) (VI (ci+1) (t+16)) (di:=1),oB "list.__getitem__" [VR (n0+1),VI (x.fmod 3) (t+2)] (t+15) (n+0) (VI ci ui) (rd:=[(n0+1,listO cs ec)]),oB "int.__mod__" [VI (x.fdiv 9) (t+10),VI (cj+1) (t+12)] (t+13) (n+0) (VI ((x.fdiv 9).fmod (cj+1)) (t+13)) (di:=1),oB "int.__add__" [VI cj uj,VI 1 (t+11)] (t+12) (n+0) (VI (cj+1) (t+12)) (di:=1),oB "list.__getitem__" [VR (n0+1),VI ((x.fdiv 3).fmod 3) (t+7)] (t+11) (n+0) (VI cj uj) (rd:=[(n0+1,listO cs ec)]),oB "int.__floordiv__" [VI x tx,VI 9 (t+9)] (t+10) (n+0) (VI (x.fdiv 9) (t+10)) (di:=1),oB "int.__ne__" [VI ((x.fdiv 3).fmod 3) (t+7),VI (x.fmod 3) (t+2)] (t+9) (n+0) (Value.bool true),oB "int.__mod__" [VI (x.fdiv 3) (t+5),VI 3 (t+6)] (t+7) (n+0) (VI ((x.fdiv 3).fmod 3) (t+7)) (di:=1),oB "int.__floordiv__" [VI x tx,VI 3 (t+4)] (t+5) (n+0) (VI (x.fdiv 3) (t+5)) (di:=1),oB "int.__mod__" [VI x tx,VI 3 (t+1)] (t+2) (n+0) (VI (x.fmod 3) (t+2)) (di:=1),oB "list_iterator.__next__" [VR (n0+3)] (t+0) (n+0) (VI x tx) (rd:=[(nl,listO ns ne)]) (w:=some (n0+3,itO nl ↑k,itO nl (↑k+1)))] [0,1,2,3,4,5] ([(n+0,listO [.int (x.fmod 3) (t+2),.int ((x.fdiv 3).fmod 3) (t+7),(.int ((x.fdiv 9).fmod (cj+1)) (t+13))] 0),(n0+3,itO nl ((k:Int)+1)),(n0+0,frameO [FV P q0 (.ref nl),Qo P q1 (.ref (n0+1)),kn1 P q2 (.ref (n0+2)),kn11 P (t+0) (.int x tx),kn5 P (t+3) (.int (x.fmod 3) (t+2)),kn6 P (t+8) (.int ((x.fdiv 3).fmod 3) (t+7)),kn7 P (t+14) (.int ((x.fdiv 9).fmod (cj+1)) (t+13))] 7),(n0+1,listO (cs.set (x.fmod 3).toNat (.int (ci+1) (t+16))) ec),(Ve n0 ds n ed),(nl,listO ns ne)]):=sO
end
def Nv:List Nat:=dO 40 0x408102041020408081030608102040c18304081020408102040810204081020408101
def Uj(n0 t0 n t:Nat)(nl:Addr)(ns:List Value)(ne:Nat)(k:Nat)(ds cs:List Value)(ed ec:Nat)(q0 q1 q2:Nat)(x:Int)(tx:Nat)(cj:Int)(uj:Nat)(ci:Int)(ui:Nat):Out:=let xc:=(Yq b1 b2 P n0 t0 nl ns ne).res.callee;ev (bS b1 b2 P n t) 102 Nv [{v:=VI x tx,rd:=[4],w:=some (0,itO nl (↑k+1))},{v:=VI (x.fmod 3) (t+2),di:=1},{v:=VI (x.fdiv 3) (t+5),di:=1},{v:=VI ((x.fdiv 3).fmod 3) (t+7),di:=1},{v:=Value.bool false},{v:=VI ci ui,rd:=[2]},{v:=VI (ci+1) (t+12),di:=1},{v:=Value.none,w:=some (2,listO (cs.set (x.fmod 3).toNat (VI (ci+1) (t+12))) ec)},{v:=Value.none,w:=some (Vc ds n ed)}] xc (denF xc) [] 0 (SX n0 nl k P q0 q1 q2 cs ec ds ed ns ne) 0 0 [] []
section
variable(n0 t0 n t:Nat)(nl:Addr)(ns:List Value)(ne k:Nat)(ds cs:List Value)(ed ec q0 q1 q2:Nat)(vx vi vj vm:Value)(q3 q4 q5 q6:Nat)(x:Int)(tx:Nat)(cj:Int)(uj:Nat)(ci:Int)(ui:Nat)
theorem Gc:Seg (Uj b1 b2 P n0 t0 n t nl ns ne k ds cs ed ec q0 q1 q2 x tx cj uj ci ui) (.again) ((Yq b1 b2 P n0 t0 nl ns ne).res.callee) 1 13 [oB "list.append" [VR (n0+2),VR (n+0)] (t+13) (n+1) Value.none (w:=some (n0+2,listO ds ed,listO (ds++[VR (n+0)]) (ed+1))),oB "list.__setitem__" [VR (n0+1),VI (x.fmod 3) (t+2),VI (ci+1) (t+12)] (t+13) (n+0) Value.none (w:=some (n0+1,listO cs ec,listO (cs.set (x.fmod 3).toNat (VI (ci+1) (t+12))) ec)),oB "int.__add__" [VI ci ui,VI 1 (t+11)] (t+12) (n+0) (VI (ci+1) (t+12)) (di:=1),oB "list.__getitem__" [VR (n0+1),VI (x.fmod 3) (t+2)] (t+11) (n+0) (VI ci ui) (rd:=[(n0+1,listO cs ec)]),oB "int.__ne__" [VI ((x.fdiv 3).fmod 3) (t+7),VI (x.fmod 3) (t+2)] (t+9) (n+0) (Value.bool false),oB "int.__mod__" [VI (x.fdiv 3) (t+5),VI 3 (t+6)] (t+7) (n+0) (VI ((x.fdiv 3).fmod 3) (t+7)) (di:=1),oB "int.__floordiv__" [VI x tx,VI 3 (t+4)] (t+5) (n+0) (VI (x.fdiv 3) (t+5)) (di:=1),oB "int.__mod__" [VI x tx,VI 3 (t+1)] (t+2) (n+0) (VI (x.fmod 3) (t+2)) (di:=1),oB "list_iterator.__next__" [VR (n0+3)] (t+0) (n+0) (VI x tx) (rd:=[(nl,listO ns ne)]) (w:=some (n0+3,itO nl ↑k,itO nl (↑k+1)))] [0,1,2,3,4,5] ([(n+0,listO [.int (x.fmod 3) (t+2),.int ((x.fdiv 3).fmod 3) (t+7),(.int 0 (t+9))] 0),(n0+3,itO nl ((k:Int)+1)),(n0+0,frameO [FV P q0 (.ref nl),Qo P q1 (.ref (n0+1)),kn1 P q2 (.ref (n0+2)),kn11 P (t+0) (.int x tx),kn5 P (t+3) (.int (x.fmod 3) (t+2)),kn6 P (t+8) (.int ((x.fdiv 3).fmod 3) (t+7)),kn7 P (t+10) (.int 0 (t+9))] 7),(n0+1,listO (cs.set (x.fmod 3).toNat (.int (ci+1) (t+12))) ec),(Ve n0 ds n ed),(nl,listO ns ne)]):=sO
def Ns:List Nat:=dO 50 0x10204081040810202040c1820408103060c1020408102040c18304081020408102040810204081020408101
abbrev Vw n0(P:Params) q0 nl q1 q2 q3 vx q4 vi q5 vj q6 vm:=((n0+0,frameO [FV P q0 (.ref nl),Qo P q1 (.ref (n0+1)),kn1 P q2 (.ref (n0+2)),kn11 P q3 vx,kn5 P q4 vi,kn6 P q5 vj,kn7 P q6 vm] 7):Xp)
def Ug:Out:=let xc:=(Yq b1 b2 P n0 t0 nl ns ne).res.callee;ev (bS b1 b2 P n t) 120 Ns [{v:=VI x tx,rd:=[4],w:=some (0,itO nl (↑k+1))},{v:=VI (x.fmod 3) (t+2),di:=1},{v:=VI (x.fdiv 3) (t+5),di:=1},{v:=VI ((x.fdiv 3).fmod 3) (t+7),di:=1},{v:=Value.bool true},{v:=VI (x.fdiv 9) (t+10),di:=1},{v:=VI cj uj,rd:=[2]},{v:=VI (cj+1) (t+12),di:=1},{v:=VI ((x.fdiv 9).fmod (cj+1)) (t+13),di:=1},{v:=VI ci ui,rd:=[2]},{v:=VI (ci+1) (t+16),di:=1},{v:=Value.none,w:=some (2,listO (cs.set (x.fmod 3).toNat (VI (ci+1) (t+16))) ec)},{v:=Value.none,w:=some (Vc ds n ed)}] xc (denF xc) [] 0 [(n0+3,itO nl k),(Vw n0 P q0 nl q1 q2 q3 vx q4 vi q5 vj q6 vm),(n0+1,listO cs ec),(n0+2,listO ds ed),(nl,listO ns ne)] 0 0 [] []
theorem F9:Seg (Ug b1 b2 P n0 t0 n t nl ns ne k ds cs ed ec q0 q1 q2 vx vi vj vm q3 q4 q5 q6 x tx cj uj ci ui) (.again) ((Yq b1 b2 P n0 t0 nl ns ne).res.callee) 1 17 [oB "list.append" [VR (n0+2),VR (n+0)] (t+17) (n+1) Value.none (w:=some (n0+2,listO ds ed,listO (ds++[VR (n+0)]) (ed+1))),oB "list.__setitem__" [VR (n0+1),VI (x.fmod 3) (t+2),VI (ci+1) (t+16)] (t+17) (n+0) Value.none (w:=some (n0+1,listO cs ec,listO (cs.set (x.fmod 3).toNat (VI (ci+1) (t+16))) ec)),oB "int.__add__" [VI ci ui,VI 1 (t+15)] (t+16) (n+0) (VI (ci+1) (t+16)) (di:=1),oB "list.__getitem__" [VR (n0+1),VI (x.fmod 3) (t+2)] (t+15) (n+0) (VI ci ui) (rd:=[(n0+1,listO cs ec)]),oB "int.__mod__" [VI (x.fdiv 9) (t+10),VI (cj+1) (t+12)] (t+13) (n+0) (VI ((x.fdiv 9).fmod (cj+1)) (t+13)) (di:=1),oB "int.__add__" [VI cj uj,VI 1 (t+11)] (t+12) (n+0) (VI (cj+1) (t+12)) (di:=1),oB "list.__getitem__" [VR (n0+1),VI ((x.fdiv 3).fmod 3) (t+7)] (t+11) (n+0) (VI cj uj) (rd:=[(n0+1,listO cs ec)]),oB "int.__floordiv__" [VI x tx,VI 9 (t+9)] (t+10) (n+0) (VI (x.fdiv 9) (t+10)) (di:=1),oB "int.__ne__" [VI ((x.fdiv 3).fmod 3) (t+7),VI (x.fmod 3) (t+2)] (t+9) (n+0) (Value.bool true),oB "int.__mod__" [VI (x.fdiv 3) (t+5),VI 3 (t+6)] (t+7) (n+0) (VI ((x.fdiv 3).fmod 3) (t+7)) (di:=1),oB "int.__floordiv__" [VI x tx,VI 3 (t+4)] (t+5) (n+0) (VI (x.fdiv 3) (t+5)) (di:=1),oB "int.__mod__" [VI x tx,VI 3 (t+1)] (t+2) (n+0) (VI (x.fmod 3) (t+2)) (di:=1),oB "list_iterator.__next__" [VR (n0+3)] (t+0) (n+0) (VI x tx) (rd:=[(nl,listO ns ne)]) (w:=some (n0+3,itO nl ↑k,itO nl (↑k+1)))] [0,1,2,3,4,5] ([(n+0,listO [.int (x.fmod 3) (t+2),.int ((x.fdiv 3).fmod 3) (t+7),(.int ((x.fdiv 9).fmod (cj+1)) (t+13))] 0),(n0+3,itO nl ((k:Int)+1)),(n0+0,frameO [FV P q0 (.ref nl),Qo P q1 (.ref (n0+1)),kn1 P q2 (.ref (n0+2)),kn11 P q3 (.int x tx),kn5 P q4 (.int (x.fmod 3) (t+2)),kn6 P q5 (.int ((x.fdiv 3).fmod 3) (t+7)),kn7 P q6 (.int ((x.fdiv 9).fmod (cj+1)) (t+13))] 7),(n0+1,listO (cs.set (x.fmod 3).toNat (.int (ci+1) (t+16))) ec),(Ve n0 ds n ed),(nl,listO ns ne)]):=sO
end
def Nt:List Nat:=dO 40 0x408102041020408081030608102040c18304081020408102040810204081020408101
def Uh(n0 t0 n t:Nat)(nl:Addr)(ns:List Value)(ne:Nat)(k:Nat)(ds cs:List Value)(ed ec:Nat)(q0 q1 q2:Nat)(vx vi vj vm:Value)(q3 q4 q5 q6:Nat)(x:Int)(tx:Nat)(cj:Int)(uj:Nat)(ci:Int)(ui:Nat):Out:=let xc:=(Yq b1 b2 P n0 t0 nl ns ne).res.callee;ev (bS b1 b2 P n t) 102 Nt [{v:=VI x tx,rd:=[4],w:=some (0,itO nl (↑k+1))},{v:=VI (x.fmod 3) (t+2),di:=1},{v:=VI (x.fdiv 3) (t+5),di:=1},{v:=VI ((x.fdiv 3).fmod 3) (t+7),di:=1},{v:=Value.bool false},{v:=VI ci ui,rd:=[2]},{v:=VI (ci+1) (t+12),di:=1},{v:=Value.none,w:=some (2,listO (cs.set (x.fmod 3).toNat (VI (ci+1) (t+12))) ec)},{v:=Value.none,w:=some (Vc ds n ed)}] xc (denF xc) [] 0 [(n0+3,itO nl k),(Vw n0 P q0 nl q1 q2 q3 vx q4 vi q5 vj q6 vm),(n0+1,listO cs ec),(n0+2,listO ds ed),(nl,listO ns ne)] 0 0 [] []
section
variable(n0 t0 n t:Nat)(nl:Addr)(ns:List Value)(ne:Nat)(a0 a1 a2 a3 a4:Value)(k:Nat)(ds cs:List Value)(ed ec q0 q1 q2:Nat)(vx vi vj vm:Value)(q3 q4 q5 q6:Nat)(x:Int)(tx:Nat)(cj:Int)(uj:Nat)(ci:Int)(ui:Nat)
theorem Ga:Seg (Uh b1 b2 P n0 t0 n t nl ns ne k ds cs ed ec q0 q1 q2 vx vi vj vm q3 q4 q5 q6 x tx cj uj ci ui) (.again) ((Yq b1 b2 P n0 t0 nl ns ne).res.callee) 1 13 [oB "list.append" [VR (n0+2),VR (n+0)] (t+13) (n+1) Value.none (w:=some (n0+2,listO ds ed,listO (ds++[VR (n+0)]) (ed+1))),oB "list.__setitem__" [VR (n0+1),VI (x.fmod 3) (t+2),VI (ci+1) (t+12)] (t+13) (n+0) Value.none (w:=some (n0+1,listO cs ec,listO (cs.set (x.fmod 3).toNat (VI (ci+1) (t+12))) ec)),oB "int.__add__" [VI ci ui,VI 1 (t+11)] (t+12) (n+0) (VI (ci+1) (t+12)) (di:=1),oB "list.__getitem__" [VR (n0+1),VI (x.fmod 3) (t+2)] (t+11) (n+0) (VI ci ui) (rd:=[(n0+1,listO cs ec)]),oB "int.__ne__" [VI ((x.fdiv 3).fmod 3) (t+7),VI (x.fmod 3) (t+2)] (t+9) (n+0) (Value.bool false),oB "int.__mod__" [VI (x.fdiv 3) (t+5),VI 3 (t+6)] (t+7) (n+0) (VI ((x.fdiv 3).fmod 3) (t+7)) (di:=1),oB "int.__floordiv__" [VI x tx,VI 3 (t+4)] (t+5) (n+0) (VI (x.fdiv 3) (t+5)) (di:=1),oB "int.__mod__" [VI x tx,VI 3 (t+1)] (t+2) (n+0) (VI (x.fmod 3) (t+2)) (di:=1),oB "list_iterator.__next__" [VR (n0+3)] (t+0) (n+0) (VI x tx) (rd:=[(nl,listO ns ne)]) (w:=some (n0+3,itO nl ↑k,itO nl (↑k+1)))] [0,1,2,3,4,5] ([(n+0,listO [.int (x.fmod 3) (t+2),.int ((x.fdiv 3).fmod 3) (t+7),(.int 0 (t+9))] 0),(n0+3,itO nl ((k:Int)+1)),(n0+0,frameO [FV P q0 (.ref nl),Qo P q1 (.ref (n0+1)),kn1 P q2 (.ref (n0+2)),kn11 P q3 (.int x tx),kn5 P q4 (.int (x.fmod 3) (t+2)),kn6 P q5 (.int ((x.fdiv 3).fmod 3) (t+7)),kn7 P q6 (.int 0 (t+9))] 7),(n0+1,listO (cs.set (x.fmod 3).toNat (.int (ci+1) (t+12))) ec),(Ve n0 ds n ed),(nl,listO ns ne)]):=sO
def GW:List Nat:=dO 11 0x8102080810004001
def Bz:Out:=let xc:=(Yq b1 b2 P n0 t0 nl [a0,a1,a2,a3] ne).res.callee;ev (bS b1 b2 P n t) 23 GW [] xc (denF xc) [] 0 [(n0+3,itO nl 4),(nl,listO [a0,a1,a2,a3] ne)] 0 0 [] []
theorem Fo:Ni (Bz b1 b2 P n0 t0 n t nl ne a0 a1 a2 a3) 2 0 [] [2,3] ([(n0+3,GY 4),(nl,listO [a0,a1,a2,a3] ne)]):=sO
def GV:List Nat:=dO 11 0x8102080810004001
def By:Out:=let xc:=(Yq b1 b2 P n0 t0 nl [a0,a1,a2,a3,a4] ne).res.callee;ev (bS b1 b2 P n t) 23 GV [] xc (denF xc) [] 0 [(n0+3,itO nl 5),(nl,listO [a0,a1,a2,a3,a4] ne)] 0 0 [] []
theorem Fn:Ni (By b1 b2 P n0 t0 n t nl ne a0 a1 a2 a3 a4) 2 0 [] [2,3] ([(n0+3,GY 5),(nl,listO [a0,a1,a2,a3,a4] ne)]):=sO
end
def Nr:List Nat:=[1]
section
variable(n0 t0 n t:Nat)(nl:Addr)(ns:List Value)(ne q0 q1 q2 q3 q4 q5 q6:Nat)(vx vi vj vm:Value)
def Uf:Out:=let xr:=(Yq b1 b2 P n0 t0 nl ns ne).res;ev (bS b1 b2 P n t) 9 Nr [] xr.c (xr.k (.ok .next)) xr.K xr.d [(Vw n0 P q0 nl q1 q2 q3 vx q4 vi q5 vj q6 vm)] 0 0 [] []
theorem F8:Seg (Uf b1 b2 P n0 t0 n t nl ns ne q0 q1 q2 q3 q4 q5 q6 vx vi vj vm) (.flow (.ret (.ref (n0+2)))) (.call .none {}) 0 0 [] [0] ([(Vw n0 P q0 nl q1 q2 q3 vx q4 vi q5 vj q6 vm)]):=sO
end
end

noncomputable def deedOf(counts:List Int)(x:Int):D3:=(x.fmod 3,(x.fdiv 3).fmod 3,if (x.fdiv 3).fmod 3≠x.fmod 3 then (x.fdiv 9).fmod (counts.getD ((x.fdiv 3).fmod 3).toNat 0+1) else 0)
noncomputable def countUp(counts:List Int)(i:Nat):List Int:=counts.set i (counts.getD i 0+1)
noncomputable def Yx(st:List Int×List D3)(x:Int):List Int×List D3:=(countUp st.1 (x.fmod 3).toNat,st.2++[deedOf st.1 x])
noncomputable def deedsF(xs:List Int):List D3:=(xs.foldl Yx ([0,0,0],[])).2
structure Cnt (c:List Int):Prop where
 len:c.length=3
 nn:∀i,0<=c.getD i 0
theorem Cnt.zero:Cnt [0,0,0]:=⟨rfl,fun i=>by
 match i with
 | 0 | 1 | 2=>decide
 | i+3=>simp⟩
theorem Cnt.up{c:List Int}(h:Cnt c)(i:Nat):Cnt (countUp c i):=⟨by unfold countUp;rw [List.length_set];exact h.len,fun j=>by
 unfold countUp;have h1:=h.nn i;have h2:=h.nn j;simp only [List.getD_eq_getElem?_getD] at h1 h2 ⊢;rw [List.getElem?_set]
 split
 ·split
  ·simp only [Option.getD_some];lia
  ·simp
 ·exact h2⟩
theorem JC{α:Type}(a:α)(X M E:List α):(a::(X++(M++E))).Perm (X++((M++[a])++E)):=by
 have h:X++((M++[a])++E)=(X++M)++(a::E):=by simp [List.append_assoc]
 rw [h,←List.append_assoc];exact List.perm_middle.symm
noncomputable abbrev fD(P:Params)(nl cl dl:Addr)(q0 q1 q2:Nat)(more:List DictEntry)(e:Nat):Obj:=frameO (FV P q0 (.ref nl)::Qo P q1 (.ref cl)::kn1 P q2 (.ref dl)::more) e
noncomputable abbrev KZ(P:Params)(q3 q4 q5 q6:Nat)(vx vi vj vm:Value):List DictEntry:=[kn11 P q3 vx,kn5 P q4 vi,kn6 P q5 vj,kn7 P q6 vm]
section
variable{w:World}{A:Around}{g:Array GenState}{dr:Drawn}{os:OsState}
abbrev Vs n0(dcs:List DC)(h:Heap) ed:=((n0+2,listO (dcs.map DC.val++[Value.ref (h.objs.size+0)]) (ed+1)):Xp)
abbrev yF n0(dcs:List DC) ed:=((n0+2,listO (dcs.map DC.val) ed):Xp)
theorem F7{R:Result->Shared->Prop}{h:Heap}{tk:Nat}{E0:List (Addr×Obj)}{n0 t0:Nat}{nl:Addr}{ns:List Value}{ne k:Nat}{dcs:List DC}{cs:List Value}{ed ec q0 q1 q2:Nat}{counts:List Int}{x:Int}{tx:Nat}
  (rm:Room 20 A)(hp:Prog (PP w) h)(hk:ns[k]? =some (.int x tx))(I:Ints cs counts)(C:Cnt counts)(hd:dcs.length<=100) (H:Has h ([(n0+3,itO nl k),(n0+0,fD w.params nl (n0+1) (n0+2) q0 q1 q2 [] 3),(n0+1,listO cs ec),(yF n0 dcs ed),(nl,listO ns ne)]++(dcs.map DC.cell++E0))) (Hn:∀h' tk' cs' d q3' q4' q5' q6' vx' vi' vj' vm',Prog (PP w) h'->Ext [n0+3,n0+0,n0+1,n0+2] h h'->h.objs.size<=DC.a d->Ints cs' (countUp counts (x.fmod 3).toNat)->d.d=deedOf counts x-> Has h' ([(n0+3,itO nl ((k:Int)+1)),(n0+0,fD w.params nl (n0+1) (n0+2) q0 q1 q2 (KZ w.params q3' q4' q5' q6' vx' vi' vj' vm') 7),(n0+1,listO cs' ec),(n0+2,listO ((dcs++[d]).map DC.val) (ed+1)),(nl,listO ns ne)]++((dcs++[d]).map DC.cell++E0))-> codeAny (model pw w) A (Yq (W1 w) (W2 w) w.params n0 t0 nl ns ne).res.callee R ⟨h',g,dr,tk',os⟩): codeAny (model pw w) A (Yq (W1 w) (W2 w) w.params n0 t0 nl ns ne).res.callee R ⟨h,g,dr,tk,os⟩:=by
 have hw:=(Zt (W1 w) (W2 w) w.params n0 t0 nl ns ne).wq;simp only [Prod.mk.injEq] at hw;have hi:0<=x.fmod 3/\x.fmod 3<3:=Zx (a:=x) (m:=3) (by decide);have hj:0<=(x.fdiv 3).fmod 3/\(x.fdiv 3).fmod 3<3:=Zx (m:=3) (by decide);have hlen:=C.len;obtain ⟨uj,huj⟩:=I.get (i:=((x.fdiv 3).fmod 3).toNat) (by omega);obtain ⟨ui,hui⟩:=I.get (i:=(x.fmod 3).toNat) (by omega);refine Xi ?_
 by_cases c:(x.fdiv 3).fmod 3≠x.fmod 3
 ·refine Xy [0,1,2,3,4] [] [n0+3,n0+0,n0+1,n0+2] (Gb ..) rfl (ob (XI (by rw [List.length_map];have:sizeLine=16777216:=rfl;omega)) (ob (X0 hi.1 (by omega) (by rw [I.len];omega)) (ob XH (ob (Xj hi.1 (by omega) hui) (ob (XX (by have:=C.nn ((x.fdiv 3).fmod 3).toNat;omega)) (ob XH (ob (Xj hj.1 (by omega) huj) (ob (ZU (by decide) (by decide)) (ob (HX (bne_iff_ne.mpr c)) (ob (XX (by decide)) (ob (ZU (by decide) (by decide)) (ob (XX (by decide)) (ob (Ya (k:=k) hk) Xn))))))))))))) (by rw [Xk];exact hw.2) rm hp H rfl rfl
   (Xf (lm:=[(n0+3,itO nl k),(n0+0,fD w.params nl (n0+1) (n0+2) q0 q1 q2 [] 3),(n0+1,listO cs ec),(yF n0 dcs ed)]) [5] rfl rfl) (Xg hw.1) trivial ?_
  intro h1 hp1 S1 X1;rw [Xt];refine Hn h1 _ (cs.set (x.fmod 3).toNat (.int (counts.getD (x.fmod 3).toNat 0+1) (tk+16))) ⟨h.objs.size+0,x.fmod 3,(x.fdiv 3).fmod 3,(x.fdiv 9).fmod (counts.getD ((x.fdiv 3).fmod 3).toNat 0+1),tk+2,tk+7,tk+13,0⟩ (tk+0) (tk+3) (tk+8) (tk+14) (.int x tx) (.int (x.fmod 3) (tk+2)) (.int ((x.fdiv 3).fmod 3) (tk+7)) (.int ((x.fdiv 9).fmod (counts.getD ((x.fdiv 3).fmod 3).toNat 0+1)) (tk+13)) hp1 X1 (lar) (I.set _ _ _) ?_ ?_
  ·unfold deedOf;rw [if_pos c];rfl
  ·have S2:Has h1 _:=Has.perm S1 (JC _ [(n0+3,itO nl ((k:Int)+1)),(n0+0,fD w.params nl (n0+1) (n0+2) q0 q1 q2 (KZ w.params (tk+0) (tk+3) (tk+8) (tk+14) (.int x tx) (.int (x.fmod 3) (tk+2)) (.int ((x.fdiv 3).fmod 3) (tk+7)) (.int ((x.fdiv 9).fmod (counts.getD ((x.fdiv 3).fmod 3).toNat 0+1)) (tk+13))) 7),(n0+1,listO (cs.set (x.fmod 3).toNat (.int (counts.getD (x.fmod 3).toNat 0+1) (tk+16))) ec),(Vs n0 dcs h ed),(nl,listO ns ne)] (dcs.map DC.cell) E0);rw [List.map_append,List.map_append];exact S2
 ·replace c:=Decidable.not_not.mp c;refine Xy [0,1,2,3,4] [] [n0+3,n0+0,n0+1,n0+2] (Gc (W1 w) (W2 w) w.params n0 t0 h.objs.size tk nl ns ne k (dcs.map DC.val) cs ed ec q0 q1 q2 x tx (counts.getD ((x.fdiv 3).fmod 3).toNat 0) 0 (counts.getD (x.fmod 3).toNat 0) ui) rfl (ob (XI (by rw [List.length_map];have:sizeLine=16777216:=rfl;omega)) (ob (X0 hi.1 (by omega) (by rw [I.len];omega)) (ob XH (ob (Xj hi.1 (by omega) hui) (ob (HX (by rw [c];exact bne_self_eq_false _)) (ob (XX (by decide)) (ob (ZU (by decide) (by decide)) (ob (XX (by decide)) (ob (Ya (k:=k) hk) Xn))))))))) (by rw [Xk];exact hw.2) rm hp H rfl rfl
   (Xf (lm:=[(n0+3,itO nl k),(n0+0,fD w.params nl (n0+1) (n0+2) q0 q1 q2 [] 3),(n0+1,listO cs ec),(yF n0 dcs ed)]) [5] rfl rfl) (Xg hw.1) trivial ?_
  intro h1 hp1 S1 X1;rw [Xt];refine Hn h1 _ (cs.set (x.fmod 3).toNat (.int (counts.getD (x.fmod 3).toNat 0+1) (tk+12))) ⟨h.objs.size+0,x.fmod 3,(x.fdiv 3).fmod 3,0,tk+2,tk+7,tk+9,0⟩ (tk+0) (tk+3) (tk+8) (tk+10) (.int x tx) (.int (x.fmod 3) (tk+2)) (.int ((x.fdiv 3).fmod 3) (tk+7)) (.int 0 (tk+9)) hp1 X1 (lar) (I.set _ _ _) ?_ ?_
  ·unfold deedOf;rw [if_neg (not_not_intro c)];rfl
  ·have S2:Has h1 _:=Has.perm S1 (JC _ [(n0+3,itO nl ((k:Int)+1)),(n0+0,fD w.params nl (n0+1) (n0+2) q0 q1 q2 (KZ w.params (tk+0) (tk+3) (tk+8) (tk+10) (.int x tx) (.int (x.fmod 3) (tk+2)) (.int ((x.fdiv 3).fmod 3) (tk+7)) (.int 0 (tk+9))) 7),(n0+1,listO (cs.set (x.fmod 3).toNat (.int (counts.getD (x.fmod 3).toNat 0+1) (tk+12))) ec),(Vs n0 dcs h ed),(nl,listO ns ne)] (dcs.map DC.cell) E0);rw [List.map_append,List.map_append];exact S2
theorem F6{R:Result->Shared->Prop}{h:Heap}{tk:Nat}{E0:List (Addr×Obj)}{n0 t0:Nat}{nl:Addr}{ns:List Value}{ne k:Nat}{dcs:List DC}{cs:List Value}{ed ec q0 q1 q2:Nat}{counts:List Int}{x:Int}{tx:Nat}{q3 q4 q5 q6:Nat}{vx vi vj vm:Value}
  (rm:Room 20 A)(hp:Prog (PP w) h)(hk:ns[k]? =some (.int x tx))(I:Ints cs counts)(C:Cnt counts)(hd:dcs.length<=100) (H:Has h ([(n0+3,itO nl k),(n0+0,fD w.params nl (n0+1) (n0+2) q0 q1 q2 (KZ w.params q3 q4 q5 q6 vx vi vj vm) 7),(n0+1,listO cs ec),(yF n0 dcs ed),(nl,listO ns ne)]++(dcs.map DC.cell++E0))) (Hn:∀h' tk' cs' d q3' q4' q5' q6' vx' vi' vj' vm',Prog (PP w) h'->Ext [n0+3,n0+0,n0+1,n0+2] h h'->h.objs.size<=DC.a d->Ints cs' (countUp counts (x.fmod 3).toNat)->d.d=deedOf counts x-> Has h' ([(n0+3,itO nl ((k:Int)+1)),(n0+0,fD w.params nl (n0+1) (n0+2) q0 q1 q2 (KZ w.params q3' q4' q5' q6' vx' vi' vj' vm') 7),(n0+1,listO cs' ec),(n0+2,listO ((dcs++[d]).map DC.val) (ed+1)),(nl,listO ns ne)]++((dcs++[d]).map DC.cell++E0))-> codeAny (model pw w) A (Yq (W1 w) (W2 w) w.params n0 t0 nl ns ne).res.callee R ⟨h',g,dr,tk',os⟩): codeAny (model pw w) A (Yq (W1 w) (W2 w) w.params n0 t0 nl ns ne).res.callee R ⟨h,g,dr,tk,os⟩:=by
 have hw:=(Zt (W1 w) (W2 w) w.params n0 t0 nl ns ne).wq;simp only [Prod.mk.injEq] at hw;have hi:0<=x.fmod 3/\x.fmod 3<3:=Zx (a:=x) (m:=3) (by decide);have hj:0<=(x.fdiv 3).fmod 3/\(x.fdiv 3).fmod 3<3:=Zx (m:=3) (by decide);have hlen:=C.len;obtain ⟨uj,huj⟩:=I.get (i:=((x.fdiv 3).fmod 3).toNat) (by omega);obtain ⟨ui,hui⟩:=I.get (i:=(x.fmod 3).toNat) (by omega);refine Xi ?_
 by_cases c:(x.fdiv 3).fmod 3≠x.fmod 3
 ·refine Xy [0,1,2,3,4] [] [n0+3,n0+0,n0+1,n0+2] (F9 ..) rfl (ob (XI (by rw [List.length_map];have:sizeLine=16777216:=rfl;omega)) (ob (X0 hi.1 (by omega) (by rw [I.len];omega)) (ob XH (ob (Xj hi.1 (by omega) hui) (ob (XX (by have:=C.nn ((x.fdiv 3).fmod 3).toNat;omega)) (ob XH (ob (Xj hj.1 (by omega) huj) (ob (ZU (by decide) (by decide)) (ob (HX (bne_iff_ne.mpr c)) (ob (XX (by decide)) (ob (ZU (by decide) (by decide)) (ob (XX (by decide)) (ob (Ya (k:=k) hk) Xn))))))))))))) (by rw [Xk];exact hw.2) rm hp H rfl rfl
   (Xf (lm:=[(n0+3,itO nl k),(n0+0,fD w.params nl (n0+1) (n0+2) q0 q1 q2 (KZ w.params q3 q4 q5 q6 vx vi vj vm) 7),(n0+1,listO cs ec),(yF n0 dcs ed)]) [5] rfl rfl) (Xg hw.1) trivial ?_
  intro h1 hp1 S1 X1;rw [Xt];refine Hn h1 _ (cs.set (x.fmod 3).toNat (.int (counts.getD (x.fmod 3).toNat 0+1) (tk+16))) ⟨h.objs.size+0,x.fmod 3,(x.fdiv 3).fmod 3,(x.fdiv 9).fmod (counts.getD ((x.fdiv 3).fmod 3).toNat 0+1),tk+2,tk+7,tk+13,0⟩ q3 q4 q5 q6 (.int x tx) (.int (x.fmod 3) (tk+2)) (.int ((x.fdiv 3).fmod 3) (tk+7)) (.int ((x.fdiv 9).fmod (counts.getD ((x.fdiv 3).fmod 3).toNat 0+1)) (tk+13)) hp1 X1 (lar) (I.set _ _ _) ?_ ?_
  ·unfold deedOf;rw [if_pos c];rfl
  ·have S2:Has h1 _:=Has.perm S1 (JC _ [(n0+3,itO nl ((k:Int)+1)),(n0+0,fD w.params nl (n0+1) (n0+2) q0 q1 q2 (KZ w.params q3 q4 q5 q6 (.int x tx) (.int (x.fmod 3) (tk+2)) (.int ((x.fdiv 3).fmod 3) (tk+7)) (.int ((x.fdiv 9).fmod (counts.getD ((x.fdiv 3).fmod 3).toNat 0+1)) (tk+13))) 7),(n0+1,listO (cs.set (x.fmod 3).toNat (.int (counts.getD (x.fmod 3).toNat 0+1) (tk+16))) ec),(Vs n0 dcs h ed),(nl,listO ns ne)] (dcs.map DC.cell) E0);rw [List.map_append,List.map_append];exact S2
 ·replace c:=Decidable.not_not.mp c;refine Xy [0,1,2,3,4] [] [n0+3,n0+0,n0+1,n0+2] (Ga (W1 w) (W2 w) w.params n0 t0 h.objs.size tk nl ns ne k (dcs.map DC.val) cs ed ec q0 q1 q2 vx vi vj vm q3 q4 q5 q6 x tx (counts.getD ((x.fdiv 3).fmod 3).toNat 0) 0 (counts.getD (x.fmod 3).toNat 0) ui) rfl (ob (XI (by rw [List.length_map];have:sizeLine=16777216:=rfl;omega)) (ob (X0 hi.1 (by omega) (by rw [I.len];omega)) (ob XH (ob (Xj hi.1 (by omega) hui) (ob (HX (by rw [c];exact bne_self_eq_false _)) (ob (XX (by decide)) (ob (ZU (by decide) (by decide)) (ob (XX (by decide)) (ob (Ya (k:=k) hk) Xn))))))))) (by rw [Xk];exact hw.2) rm hp H rfl rfl
   (Xf (lm:=[(n0+3,itO nl k),(n0+0,fD w.params nl (n0+1) (n0+2) q0 q1 q2 (KZ w.params q3 q4 q5 q6 vx vi vj vm) 7),(n0+1,listO cs ec),(yF n0 dcs ed)]) [5] rfl rfl) (Xg hw.1) trivial ?_
  intro h1 hp1 S1 X1;rw [Xt];refine Hn h1 _ (cs.set (x.fmod 3).toNat (.int (counts.getD (x.fmod 3).toNat 0+1) (tk+12))) ⟨h.objs.size+0,x.fmod 3,(x.fdiv 3).fmod 3,0,tk+2,tk+7,tk+9,0⟩ q3 q4 q5 q6 (.int x tx) (.int (x.fmod 3) (tk+2)) (.int ((x.fdiv 3).fmod 3) (tk+7)) (.int 0 (tk+9)) hp1 X1 (lar) (I.set _ _ _) ?_ ?_
  ·unfold deedOf;rw [if_neg (not_not_intro c)];rfl
  ·have S2:Has h1 _:=Has.perm S1 (JC _ [(n0+3,itO nl ((k:Int)+1)),(n0+0,fD w.params nl (n0+1) (n0+2) q0 q1 q2 (KZ w.params q3 q4 q5 q6 (.int x tx) (.int (x.fmod 3) (tk+2)) (.int ((x.fdiv 3).fmod 3) (tk+7)) (.int 0 (tk+9))) 7),(n0+1,listO (cs.set (x.fmod 3).toNat (.int (counts.getD (x.fmod 3).toNat 0+1) (tk+12))) ec),(Vs n0 dcs h ed),(nl,listO ns ne)] (dcs.map DC.cell) E0);rw [List.map_append,List.map_append];exact S2
theorem yD{R:Result->Shared->Prop}{E0:List (Addr×Obj)}{n0 t0:Nat}{nl:Addr}{ns:List Value}{ne q0 q1 q2 ec:Nat}{xs:List Int}(rm:Room 20 A)(hx:Ints ns xs)(hl:xs.length=4\/xs.length=5):
  ∀(todo done:List Int) {h:Heap} {tk:Nat} {cs:List Value} {counts:List Int} {dcs:List DC} {ed q3 q4 q5 q6:Nat} {vx vi vj vm:Value},xs=done++todo->Prog (PP w) h->Ints cs counts->Cnt counts->dcs.length=done.length-> Has h ([(n0+3,itO nl done.length),(n0+0,fD w.params nl (n0+1) (n0+2) q0 q1 q2 (KZ w.params q3 q4 q5 q6 vx vi vj vm) 7),(n0+1,listO cs ec),(yF n0 dcs ed),(nl,listO ns ne)]++(dcs.map DC.cell++E0))->
   (∀h' tk' cs' (dcs':List DC) ed' q3' q4' q5' q6' vx' vi' vj' vm',Prog (PP w) h'->Ext [n0+3,n0+0,n0+1,n0+2] h h'->(∀d∈dcs',d∈dcs\/h.objs.size<=DC.a d)->dcs'.map DC.d=(todo.foldl Yx (counts,dcs.map DC.d)).2-> Has h' ([(n0+0,fD w.params nl (n0+1) (n0+2) q0 q1 q2 (KZ w.params q3' q4' q5' q6' vx' vi' vj' vm') 7),(n0+1,listO cs' ec),(n0+2,listO (dcs'.map DC.val) ed'),(nl,listO ns ne)]++(dcs'.map DC.cell++E0))->R (.ok .next) ⟨h',g,dr,tk',os⟩)-> codeAny (model pw w) A (Yq (W1 w) (W2 w) w.params n0 t0 nl ns ne).res.callee R ⟨h,g,dr,tk,os⟩
 | [],done,h,tk,cs,counts,dcs,ed,q3,q4,q5,q6,vx,vi,vj,vm=>by
  intro hdc hp I C hdl H Hn;rw [List.append_nil] at hdc;subst hdc;have hlen:ns.length=xs.length:=hx.len;refine Xi ?_;rcases hl with hl | hl
  ·obtain ⟨a0,a1,a2,a3,rfl⟩:=Mz (hlen.trans hl);have hw:=(Zt (W1 w) (W2 w) w.params n0 t0 nl [a0,a1,a2,a3] ne).wq;simp only [Prod.mk.injEq] at hw;rw [hl] at H;refine Xm (k:=20) [0,4] [1,2,3] [n0+3] (Fo ..) rfl Xn rm hp H rfl rfl (Xf (lm:=[(n0+3,itO nl 4)]) [1] rfl rfl) (Xg hw.1) trivial ?_;intro h1 hp1 S1 X1;refine Hn h1 _ cs dcs ed q3 q4 q5 q6 vx vi vj vm hp1 (X1.to fun a ha=>by rw [List.mem_singleton.mp ha];exact .head _) (fun d hd=>.inl hd) rfl ?_;exact Has.re2 S1 [2,3,4,1] rfl
  ·obtain ⟨a0,a1,a2,a3,a4,rfl⟩:=Bi (hlen.trans hl);have hw:=(Zt (W1 w) (W2 w) w.params n0 t0 nl [a0,a1,a2,a3,a4] ne).wq;simp only [Prod.mk.injEq] at hw;rw [hl] at H;refine Xm (k:=20) [0,4] [1,2,3] [n0+3] (Fn ..) rfl Xn rm hp H rfl rfl (Xf (lm:=[(n0+3,itO nl 5)]) [1] rfl rfl) (Xg hw.1) trivial ?_;intro h1 hp1 S1 X1;refine Hn h1 _ cs dcs ed q3 q4 q5 q6 vx vi vj vm hp1 (X1.to fun a ha=>by rw [List.mem_singleton.mp ha];exact .head _) (fun d hd=>.inl hd) rfl ?_;exact Has.re2 S1 [2,3,4,1] rfl
 | x::todo,done,h,tk,cs,counts,dcs,ed,q3,q4,q5,q6,vx,vi,vj,vm=>by
  intro hdc hp I C hdl H Hn;have hxk:xs[done.length]? =some x:=by rw [hdc,List.getElem?_append_right (Nat.le_refl _)];simp
  obtain ⟨tx,hk⟩:=hx.at' _ _ hxk;have hbound:dcs.length<=100:=by
   have:=congrArg List.length hdc;rw [List.length_append] at this;lia
  refine F6 rm hp hk I C hbound H ?_;intro h1 tk1 cs1 d q3' q4' q5' q6' vx' vi' vj' vm' hp1 X1 ha I1 ed1 S1;have S1':Has h1 ([(n0+3,itO nl (done++[x]).length),(n0+0,fD w.params nl (n0+1) (n0+2) q0 q1 q2 (KZ w.params q3' q4' q5' q6' vx' vi' vj' vm') 7),(n0+1,listO cs1 ec),(n0+2,listO ((dcs++[d]).map DC.val) (ed+1)),(nl,listO ns ne)]++((dcs++[d]).map DC.cell++E0)):=by
   rw [List.length_append,List.length_singleton];exact S1
  refine yD rm hx hl todo (done++[x]) (by rw [hdc,List.append_assoc];rfl) hp1 I1 (C.up _) (by rw [List.length_append,List.length_append,hdl];rfl) S1' ?_;intro h2 tk2 cs2 dcs2 ed2 q3'' q4'' q5'' q6'' vx'' vi'' vj'' vm'' hp2 X2 hn2 e2 S2;refine Hn h2 tk2 cs2 dcs2 ed2 q3'' q4'' q5'' q6'' vx'' vi'' vj'' vm'' hp2 (X1.trans X2 fun a ha=>.inl ha) ?_ ?_ S2
  ·intro d' hd';rcases hn2 d' hd' with h3 | h3
   ·rcases List.mem_append.mp h3 with h4 | h4
    ·exact .inl h4
    ·rw [List.mem_singleton.mp h4];exact .inr ha
   ·exact .inr (Nat.le_trans X1.size h3)
  ·rw [e2,List.map_append];show _=(todo.foldl Yx (Yx (counts,dcs.map DC.d) x)).2;unfold Yx;rw [List.map_singleton,ed1]
theorem MN{R:Result->Shared->Prop}{h:Heap}{tk:Nat}{nl:Addr}{ns:List Value}{ne:Nat}{xs:List Int}(rm:Room 60 A)(hp:Prog (PP w) h)(hx:Ints ns xs)(hl:xs.length=4\/xs.length=5)(H:Has h [(nl,listO ns ne)]) (Hn:∀h' tk' r er (dcs:List DC),Prog (PP w) h'->Ext [] h h'->h.objs.size<=r->(∀d∈dcs,h.objs.size<=DC.a d)->dcs.map DC.d=deedsF xs->Has h' ((r,listO (dcs.map DC.val) er)::dcs.map DC.cell)->R (.ok (.ret (.ref r))) ⟨h',g,dr,tk',os⟩): codeAny (model pw w) A (.call (.ref 208) ⟨[.ref nl],[]⟩) R ⟨h,g,dr,tk,os⟩:=by
 have hne:∃x rest,xs=x::rest:=by
  cases xs with
  | nil=>rcases hl with x | x<;>cases x
  | cons d rest=>exact ⟨d,rest,rfl⟩
 obtain ⟨x,rest,hxs⟩:=hne;obtain ⟨tx,hk⟩:=hx.at' 0 x (by rw [hxs];rfl);refine XG (Nat.le_trans (lar) rm.d) (by rw [Yd];exact Nat.zero_le _) ?_;refine Xh (k:=40) [0] [] [] (Zt ..).toSeg rfl Xn rm hp (by rw [List.append_nil];exact H) rfl rfl (Xf (lm:=[]) [4] rfl rfl) (Nat.le_refl _) trivial ?_;intro h1 hp1 S1 X1 _ st1;have S1':Has h1 ([(h.objs.size+3,itO nl (0:Nat)),(h.objs.size+0,fD w.params nl (h.objs.size+1) (h.objs.size+2) (tk+0) (tk+4) (tk+5) [] 3),(h.objs.size+1,listO [.int 0 (tk+1),.int 0 (tk+2),.int 0 (tk+3)] 0),(h.objs.size+2,listO (([]:List DC).map DC.val) 0),(nl,listO ns ne)]++(([]:List DC).map DC.cell++[])):=
  Has.re2 S1 [0,3,2,1,4] rfl
 refine F7 (st1.rm.le (by decide)) hp1 hk (Ints.zero3 _ _ _) Cnt.zero (by decide) S1' ?_;intro h2 tk2 cs2 d q3 q4 q5 q6 vx vi vj vm hp2 X2 ha I2 e2 S2;refine yD (st1.rm.le (by decide)) hx hl rest [x] hxs hp2 I2 (Cnt.zero.up _) rfl S2 ?_;intro h3 tk3 cs3 dcs3 ed3 q3' q4' q5' q6' vx' vi' vj' vm' hp3 X3 hn3 e3 S3;refine Xm (k:=60) [0] [1,2,3] [] (F8 ..) rfl Xn rm hp3 S3 rfl rfl (Xf (lm:=[]) [0] rfl rfl) st1.dd st1.kk ?_;intro h4 hp4 S4 X4;have nn:∀{P:Addr->Prop},∀a∈([]:List Addr),P a:=fun a ha=>(nomatch ha);have fr:∀a∈[h.objs.size+3,h.objs.size+0,h.objs.size+1,h.objs.size+2],h.objs.size<=a:=by
  exact aL (lar) (aL (lar) (aL (lar) (aL (lar) aN)))
 refine Hn h4 _ (h.objs.size+2) ed3 dcs3 hp4 (((X1.new X2 fr).new X3 fr).trans X4 nn) (lar) ?_ ?_ ?_
 ·intro d' hd';rcases hn3 d' hd' with h5 | h5
  ·rcases List.mem_append.mp h5 with h6 | h6
   ·cases h6
   ·rw [List.mem_singleton.mp h6];exact Nat.le_trans X1.size ha
  ·exact Nat.le_trans X1.size (Nat.le_trans X2.size h5)
 ·rw [e3,hxs];show _=(rest.foldl Yx (Yx ([0,0,0],[]) x)).2;unfold Yx;rw [List.nil_append,List.map_singleton,e2]
  rfl
 ·rw [List.append_nil] at S4;have S5:Has h4 ([(h.objs.size+2,listO (dcs3.map DC.val) ed3)]++dcs3.map DC.cell):=
   Has.re2 S4 [2] rfl
  exact S5
end

noncomputable def beyB3(a0 a1 a2 c0 c1 c2:Int):Bool:=decide (a0>c0)||(decide (a1>c1)||decide (a2>c2))
theorem YF{P:Addr->Prop}:∀a∈([]:List Addr),P a:=fun _ ha=>(nomatch ha)
section
variable{w:World}{A:Around}{g:Array GenState}{dr:Drawn}{os:OsState}
abbrev YY(h:Heap):Xp:=(h.objs.size+6,dctO [] 0)
abbrev J4(h:Heap):Xp:=(h.objs.size+5,listO [] 0)
abbrev Gw(h:Heap) ct cl:=([(YY h),(J4 h),(h.objs.size+4,rgO 0 3),(h.objs.size+2,cellO (.ref ct)),(h.objs.size+1,cellO (.ref cl))]:ZQ)
abbrev YB(h:Heap):Xp:=(h.objs.size+0,frameO [] 0)
theorem GO{R:Result->Shared->Prop}{h:Heap}{tk:Nat}{cl ct:Addr}{a0 a1 a2 c0 c1 c2:Int}{ta0 ta1 ta2 tc0 tc1 tc2 ea ec:Nat}(rm:Room 60 A)(hp:Prog (PP w) h)(H:Has h [(Jm cl a0 ta0 a1 ta1 a2 ta2 ea),(Zl ct c0 tc0 c1 tc1 c2 tc2 ec)]) (Hn:∀h' tk',Prog (PP w) h'->Ext [] h h'->R (.ok (.ret (.bool (beyB3 a0 a1 a2 c0 c1 c2)))) ⟨h',g,dr,tk',os⟩): codeAny (model pw w) A (.call (.ref 237) ⟨[.ref cl,.ref ct],[]⟩) R ⟨h,g,dr,tk,os⟩:=by
 refine XG (Nat.le_trans (lar) rm.d) (by rw [Yd];exact Nat.zero_le _) ?_;refine Xh (k:=40) [] [0,1] [] (VG ..).toSeg rfl Xn rm hp (by rw [List.append_nil];exact H) rfl rfl XS (Nat.le_refl _) trivial ?_;intro h1 hp1 S1 X1 _ st1;have hw:=(VG (W1 w) (W2 w) w.params h.objs.size tk cl ct).wq;simp only [Prod.mk.injEq] at hw;have fr:∀a∈[h.objs.size+6,h.objs.size+5,h.objs.size+4,h.objs.size+2,h.objs.size+1],h.objs.size<=a:=by
  exact aL (lar) (aL (lar) (aL (lar) (aL (lar) (aL (lar) aN))))
 have fin:∀(h2:Heap) (tk2:Nat) (vs:List Value) (e q:Nat) (vq:Value) (b:Bool),(vs=[]/\b=false\/(∃v r,vs=v::r)/\b=true)->Prog (PP w) h2->Ext [] h h2->Has h2 ([(h.objs.size+6,dctO [kn9 w.params q vq] 1),(h.objs.size+5,listO vs e),(YB h)]++[])->
   (∀h' tk',Prog (PP w) h'->Ext [] h h'->R (.ok (.ret (.bool b))) ⟨h',g,dr,tk',os⟩)->
   Goes true (model pw w) A (qOf R) (eOf R) (qw (W1 w) (W2 w) w.params h.objs.size tk cl ct).res.K (qw (W1 w) (W2 w) w.params h.objs.size tk cl ct).res.c ((qw (W1 w) (W2 w) w.params h.objs.size tk cl ct).res.k (.ok .next)) ⟨h2,g,dr,tk2,os⟩:=by
  intro h2 tk2 vs e q vq b hb hp2 X2 H2 Hk;refine QY (k:=40) [0,2] [1] [h.objs.size+6] (WH (W1 w) (W2 w) w.params h.objs.size tk h2.objs.size tk2 cl ct q vq) (LF (W1 w) (W2 w) w.params h.objs.size tk h2.objs.size tk2 cl ct q vq) rfl Xn (rm.le (by decide)) hp2 H2 rfl rfl (Xf (lm:=[(h.objs.size+6,dctO [kn9 w.params q vq] 1)]) [1] rfl rfl) st1.dd st1.kk ?_;intro h3 hp3 S3 X3 _ k3 d3;have Y3:Ext [] h h3:=X2.new X3 fun a ha=>by rw [List.mem_singleton.mp ha];exact lar
  rcases hb with ⟨rfl,rfl⟩ | ⟨⟨v,r,rfl⟩,rfl⟩
  ·refine XF (k:=60) [0,2,1] [] [h2.objs.size+0,h.objs.size+5,h.objs.size+0] (((Jj ..).2.2.2.2.2.2.2.2 _ ..).1 ..).sg rfl Xn rm hp3 S3 rfl rfl XS d3 k3 ?_;intro h4 hp4 S4 X4;refine Hk h4 _ hp4 (Y3.new X4 ?_);exact aL (Nat.le_trans X2.size (lar)) (aL (lar) (aL (lar) aN))
  ·refine XF (k:=60) [0,2,1] [] [h2.objs.size+0,h.objs.size+5,h.objs.size+0] (((Jj ..).2.2.2.2.2.2.2.2 _ ..).2 ..).sg rfl Xn rm hp3 S3 rfl rfl XS d3 k3 ?_;intro h4 hp4 S4 X4;refine Hk h4 _ hp4 (Y3.new X4 ?_);exact aL (Nat.le_trans X2.size (lar)) (aL (lar) (aL (lar) aN))
 refine Xi ?_
 by_cases p0:a0>c0
 ·by_cases p1:a1>c1
  ·by_cases p2:a2>c2
   ·refine XF (k:=40) [0,1,2,3,4,6,7] [5] [h.objs.size+6,h.objs.size+5,h.objs.size+4,h.objs.size+2,h.objs.size+1] ((Jj ..).1 _ ..).sg rfl (ob (XE (decide_eq_true p2)) (ob (XE (decide_eq_true p1)) (ob (XE (decide_eq_true p0)) Xn))) st1.rm hp1 S1 rfl rfl (Xf (lm:=(Gw h ct cl)) [2,3] rfl rfl) (Xg hw.1) trivial ?_;intro h2 hp2 S2 X2;refine fin h2 _ [.int 0 (tk+3+0),.int 1 (tk+3+2),.int 2 (tk+3+4)] 3 (tk+3+1) (.int 2 (tk+3+4)) true (.inr ⟨⟨_,_,rfl⟩,rfl⟩) hp2 (X1.new X2 fr) (Has.re2 S2 [0,1,4] rfl) ?_;have e:beyB3 a0 a1 a2 c0 c1 c2=true:=by
     unfold beyB3;rw [decide_eq_true p0,decide_eq_true p1,decide_eq_true p2];rfl
    rw [e] at Hn;exact Hn
   ·refine XF (k:=40) [0,1,2,3,4,6,7] [5] [h.objs.size+6,h.objs.size+5,h.objs.size+4,h.objs.size+2,h.objs.size+1] ((Jj ..).2.1 _ ..).sg rfl (ob (XE (decide_eq_false p2)) (ob (XE (decide_eq_true p1)) (ob (XE (decide_eq_true p0)) Xn))) st1.rm hp1 S1 rfl rfl (Xf (lm:=(Gw h ct cl)) [2,3] rfl rfl) (Xg hw.1) trivial ?_;intro h2 hp2 S2 X2;refine fin h2 _ [.int 0 (tk+3+0),.int 1 (tk+3+2)] 2 (tk+3+1) (.int 2 (tk+3+4)) true (.inr ⟨⟨_,_,rfl⟩,rfl⟩) hp2 (X1.new X2 fr) (Has.re2 S2 [0,1,4] rfl) ?_;have e:beyB3 a0 a1 a2 c0 c1 c2=true:=by
     unfold beyB3;rw [decide_eq_true p0,decide_eq_true p1,decide_eq_false p2];rfl
    rw [e] at Hn;exact Hn
  ·by_cases p2:a2>c2
   ·refine XF (k:=40) [0,1,2,3,4,6,7] [5] [h.objs.size+6,h.objs.size+5,h.objs.size+4,h.objs.size+2,h.objs.size+1] ((Jj ..).2.2.1 _ ..).sg rfl (ob (XE (decide_eq_true p2)) (ob (XE (decide_eq_false p1)) (ob (XE (decide_eq_true p0)) Xn))) st1.rm hp1 S1 rfl rfl (Xf (lm:=(Gw h ct cl)) [2,3] rfl rfl) (Xg hw.1) trivial ?_;intro h2 hp2 S2 X2;refine fin h2 _ [.int 0 (tk+3+0),.int 2 (tk+3+4)] 2 (tk+3+1) (.int 2 (tk+3+4)) true (.inr ⟨⟨_,_,rfl⟩,rfl⟩) hp2 (X1.new X2 fr) (Has.re2 S2 [0,1,4] rfl) ?_;have e:beyB3 a0 a1 a2 c0 c1 c2=true:=by
     unfold beyB3;rw [decide_eq_true p0,decide_eq_false p1,decide_eq_true p2];rfl
    rw [e] at Hn;exact Hn
   ·refine XF (k:=40) [0,1,2,3,4,6,7] [5] [h.objs.size+6,h.objs.size+5,h.objs.size+4,h.objs.size+2,h.objs.size+1] ((Jj ..).2.2.2.1 _ ..).sg rfl (ob (XE (decide_eq_false p2)) (ob (XE (decide_eq_false p1)) (ob (XE (decide_eq_true p0)) Xn))) st1.rm hp1 S1 rfl rfl (Xf (lm:=(Gw h ct cl)) [2,3] rfl rfl) (Xg hw.1) trivial ?_;intro h2 hp2 S2 X2;refine fin h2 _ [.int 0 (tk+3+0)] 1 (tk+3+1) (.int 2 (tk+3+4)) true (.inr ⟨⟨_,_,rfl⟩,rfl⟩) hp2 (X1.new X2 fr) (Has.re2 S2 [0,1,4] rfl) ?_;have e:beyB3 a0 a1 a2 c0 c1 c2=true:=by
     unfold beyB3;rw [decide_eq_true p0,decide_eq_false p1,decide_eq_false p2];rfl
    rw [e] at Hn;exact Hn
 ·by_cases p1:a1>c1
  ·by_cases p2:a2>c2
   ·refine XF (k:=40) [0,1,2,3,4,6,7] [5] [h.objs.size+6,h.objs.size+5,h.objs.size+4,h.objs.size+2,h.objs.size+1] ((Jj ..).2.2.2.2.1 _ ..).sg rfl (ob (XE (decide_eq_true p2)) (ob (XE (decide_eq_true p1)) (ob (XE (decide_eq_false p0)) Xn))) st1.rm hp1 S1 rfl rfl (Xf (lm:=(Gw h ct cl)) [2,3] rfl rfl) (Xg hw.1) trivial ?_;intro h2 hp2 S2 X2;refine fin h2 _ [.int 1 (tk+3+2),.int 2 (tk+3+4)] 2 (tk+3+1) (.int 2 (tk+3+4)) true (.inr ⟨⟨_,_,rfl⟩,rfl⟩) hp2 (X1.new X2 fr) (Has.re2 S2 [0,1,4] rfl) ?_;have e:beyB3 a0 a1 a2 c0 c1 c2=true:=by
     unfold beyB3;rw [decide_eq_false p0,decide_eq_true p1,decide_eq_true p2];rfl
    rw [e] at Hn;exact Hn
   ·refine XF (k:=40) [0,1,2,3,4,6,7] [5] [h.objs.size+6,h.objs.size+5,h.objs.size+4,h.objs.size+2,h.objs.size+1] ((Jj ..).2.2.2.2.2.1 _ ..).sg rfl (ob (XE (decide_eq_false p2)) (ob (XE (decide_eq_true p1)) (ob (XE (decide_eq_false p0)) Xn))) st1.rm hp1 S1 rfl rfl (Xf (lm:=(Gw h ct cl)) [2,3] rfl rfl) (Xg hw.1) trivial ?_;intro h2 hp2 S2 X2;refine fin h2 _ [.int 1 (tk+3+2)] 1 (tk+3+1) (.int 2 (tk+3+4)) true (.inr ⟨⟨_,_,rfl⟩,rfl⟩) hp2 (X1.new X2 fr) (Has.re2 S2 [0,1,4] rfl) ?_;have e:beyB3 a0 a1 a2 c0 c1 c2=true:=by
     unfold beyB3;rw [decide_eq_false p0,decide_eq_true p1,decide_eq_false p2];rfl
    rw [e] at Hn;exact Hn
  ·by_cases p2:a2>c2
   ·refine XF (k:=40) [0,1,2,3,4,6,7] [5] [h.objs.size+6,h.objs.size+5,h.objs.size+4,h.objs.size+2,h.objs.size+1] ((Jj ..).2.2.2.2.2.2.1 _ ..).sg rfl (ob (XE (decide_eq_true p2)) (ob (XE (decide_eq_false p1)) (ob (XE (decide_eq_false p0)) Xn))) st1.rm hp1 S1 rfl rfl (Xf (lm:=(Gw h ct cl)) [2,3] rfl rfl) (Xg hw.1) trivial ?_;intro h2 hp2 S2 X2;refine fin h2 _ [.int 2 (tk+3+4)] 1 (tk+3+1) (.int 2 (tk+3+4)) true (.inr ⟨⟨_,_,rfl⟩,rfl⟩) hp2 (X1.new X2 fr) (Has.re2 S2 [0,1,4] rfl) ?_;have e:beyB3 a0 a1 a2 c0 c1 c2=true:=by
     unfold beyB3;rw [decide_eq_false p0,decide_eq_false p1,decide_eq_true p2];rfl
    rw [e] at Hn;exact Hn
   ·refine XF (k:=40) [0,1,2,3,4,6,7] [5] [h.objs.size+6,h.objs.size+5,h.objs.size+4,h.objs.size+2,h.objs.size+1] ((Jj ..).2.2.2.2.2.2.2.1 _ ..).sg rfl (ob (XE (decide_eq_false p2)) (ob (XE (decide_eq_false p1)) (ob (XE (decide_eq_false p0)) Xn))) st1.rm hp1 S1 rfl rfl (Xf (lm:=(Gw h ct cl)) [2,3] rfl rfl) (Xg hw.1) trivial ?_;intro h2 hp2 S2 X2;refine fin h2 _ [] 0 (tk+3+1) (.int 2 (tk+3+4)) false (.inl ⟨rfl,rfl⟩) hp2 (X1.new X2 fr) (Has.re2 S2 [0,1,4] rfl) ?_;have e:beyB3 a0 a1 a2 c0 c1 c2=false:=by
     unfold beyB3;rw [decide_eq_false p0,decide_eq_false p1,decide_eq_false p2];rfl
    rw [e] at Hn;exact Hn
end

theorem XV{P:Params}{prog:Program}{w:World}{t n k:Nat}{l:Addr}{vs:List Value}{e:Nat}(hk:vs.length=k)(hs:k<1000):
  Ob.Holds P (model prog w) (oB "len" [.ref l] t n (.int (k:Int) (t+1)) (di:=2) (rd:=[(l,listO vs e)])):=by
 intro A R s _ _ _ ht _ hr hR;obtain rfl:s.toks=t:=ht;subst hk;have ho:=hr (l,listO vs e) (.head _);have hl:=XM ho;refine Vx kind_len plain_len entry_len (args_len1 _) ?_;unfold Builtin.«len»;refine wpAny_bind (wpAny_pure ?_);refine wpAny_bind (wpAny_callSpecial?_slot hl.typeIs slot_list_len
  (wpAny_call_entry slot_list_len hl.typeIs entry_list_len ?_ (args_list_len _)))
 show wpAny _ _ (do retInt (←seqSize l)) _ _ s;unfold seqSize;refine wpAny_bind (wpAny_bind (wpAny_load ho ?_));refine wpAny_pure (wpAny_bind (wpAny_mkInt (wpAny_pure ⟨_,rfl,?_⟩)));refine wpAny_bind (wpAny_holding (wpAny_pure ?_));refine wpAny_bind (wpAny_letGo ?_);have h0: ¬((vs.length:Int)<0):=by omega
 have h1: ¬((vs.length:Int)>=2 ^ 63):=by omega
 show wpAny _ _ (if (vs.length:Int)<0 then _ else _) _ _ _;rw [if_neg h0];show wpAny _ _ (if (vs.length:Int)>=2 ^ 63 then _ else _) _ _ _;rw [if_neg h1];exact wpAny_bind (wpAny_mkInt (wpAny_pure ⟨_,rfl,hR⟩))
noncomputable abbrev fB(P:Params)(rw la:Addr)(q0 q1 q2 q3 q4:Nat)(lo:Int)(ul:Nat)(hi:Int)(uh:Nat)(more:List DictEntry)(e:Nat):Obj:=
 frameO (JO P q0 (.ref rw)::kn11 P q1 (.bool true)::JN P q2 (.int lo ul)::JM P q3 (.int hi uh)::JL P q4 (.ref la)::more) e
theorem CG{lo hi:Int}(h0:0<=lo)(h:lo<hi):lo<=(lo+hi).fdiv 2/\(lo+hi).fdiv 2<hi:=by
 rw [Int.fdiv_eq_ediv_of_nonneg _ (by decide)];omega
def yo(w:World)(la:Addr)(cas:List Addr)(k:Nat)(g:Array GenState)(dr:Drawn)(os:OsState)(h:Heap):Prop:=
 ∀(i:Nat) (va:Addr),cas[i]? =some va->∀(A':Around) (R':Result->Shared->Prop) (h':Heap) (tk':Nat),Room 120 A'->Prog (PP w) h'->Ext [] h h'->
  (∀h'' tk'',Prog (PP w) h''->Ext [] h' h''->R' (.ok (.ret (.bool (decide (k<=i))))) ⟨h'',g,dr,tk'',os⟩)->codeAny (model pw w) A' (.call (.ref la) ⟨[.ref va],[]⟩) R' ⟨h',g,dr,tk',os⟩
section
variable{w:World}{A:Around}{g:Array GenState}{dr:Drawn}{os:OsState}{rw la:Addr}{cas:List Addr}{evv k:Nat}{fd:FuncData}
abbrev qI rw(cas:List Addr) evv:=((rw,listO (cas.map Value.ref) evv):Xp)
theorem J9{R:Result->Shared->Prop}{h:Heap}{n0 t0:Nat}{nd:Int}{q0 q1 q2 q3 q4:Nat}(rm:Room 140 A)(hcl:cas.length<100)(hkey:yo w la cas k g dr os h)(hn0:h.objs.size<=n0+0)(hnd:nd=nd)(hkl:k<=cas.length):
  ∀(f:Nat) (lo hi:Int) {h1:Heap} {tk ul uh q5:Nat} {vm:Value},0<=lo->lo<=k->(k:Int)<=hi->hi<=cas.length->hi - lo<=f->Prog (PP w) h1->Ext [] h h1-> Has h1 ([(n0+0,fB w.params rw la q0 q1 q2 q3 q4 lo ul hi uh [kn15 w.params q5 vm] 6),(qI rw cas evv),(la,qE fd)]++[])->
   (∀h' tk' more e ul' hi' uh',Prog (PP w) h'->Ext [] h h'->(more=[]/\e=5\/∃q5 vm,more=[kn15 w.params q5 vm]/\e=6)->Has h' [(n0+0,fB w.params rw la q0 q1 q2 q3 q4 (k:Nat) ul' hi' uh' more e)]->R (.ok .next) ⟨h',g,dr,tk',os⟩)-> codeAny (model pw w) A (qv (W1 w) (W2 w) w.params n0 t0 rw la (cas.map Value.ref) evv nd).res.callee R ⟨h1,g,dr,tk,os⟩
 | 0,lo,hi,h1,tk,ul,uh,q5,vm=>by
  intro h0 hlo hkh hhi hf hp1 X1 H1 Hn;have hw:=(yl (W1 w) (W2 w) w.params n0 t0 rw la (cas.map Value.ref) evv nd).wq;simp only [Prod.mk.injEq] at hw;have hlt: ¬lo<hi:=by omega
  refine Xi ?_;have hlk:lo=(k:Int):=by omega
  refine Xm (k:=140) [0] [1,2] [] (GN ..) rfl (ob (Ty (decide_eq_false hlt)) Xn) rm hp1 H1 rfl rfl (Xf (lm:=[]) [0] rfl rfl) (Xg hw.1) trivial ?_;intro h2 hp2 S2 X2;refine Hn h2 _ [kn15 w.params q5 vm] 6 ul hi uh hp2 (X1.trans X2 YF) (.inr ⟨_,_,rfl,rfl⟩) ?_;have S3:Has h2 ([(n0+0,fB w.params rw la q0 q1 q2 q3 q4 lo ul hi uh [kn15 w.params q5 vm] 6)]++[(qI rw cas evv),(la,qE fd)]):=S2;rw [hlk] at S3;exact S3.left
 | f+1,lo,hi,h1,tk,ul,uh,q5,vm=>by
  intro h0 hlo hkh hhi hf hp1 X1 H1 Hn;have hw:=(yl (W1 w) (W2 w) w.params n0 t0 rw la (cas.map Value.ref) evv nd).wq;simp only [Prod.mk.injEq] at hw
  by_cases hlt:lo<hi
  ·have hmid:=CG h0 hlt;have hm0:0<=(lo+hi).fdiv 2:=by omega
   have hi':((lo+hi).fdiv 2).toNat<cas.length:=by omega
   obtain ⟨va,hva⟩:∃va,cas[((lo+hi).fdiv 2).toNat]? =some va:=⟨_,List.getElem?_eq_getElem hi'⟩;have hitem:(cas.map Value.ref)[((lo+hi).fdiv 2).toNat]? =some (.ref va):=by rw [List.getElem?_map,hva];rfl
   refine Xi ?_;refine Xh (k:=120) [0,1,2] [] [n0+0] (Ww ..) rfl (ob (Xj hm0 (by omega) hitem) (ob (ZU (by decide) (by decide)) (ob XH (ob (Ty (decide_eq_true hlt)) Xn)))) rm hp1 H1 rfl rfl (Xf (lm:=[(n0+0,fB w.params rw la q0 q1 q2 q3 q4 lo ul hi uh [kn15 w.params q5 vm] 6)]) [1,2] rfl rfl) (Xg hw.1) trivial ?_;intro h2 hp2 S2 X2 _ st2;have fr:∀a∈[n0+0],h.objs.size<=a:=fun a ha=>by rw [List.mem_singleton.mp ha];exact hn0
   refine hkey ((lo+hi).fdiv 2).toNat va hva _ _ h2 _ st2.rm hp2 (X1.new X2 fr) ?_;intro h3 tk2 hp3 X3;have S3:Has h3 ([(n0+0,fB w.params rw la q0 q1 q2 q3 q4 lo ul hi uh [kn15 w.params q5 (.int ((lo+hi).fdiv 2) (tk+2))] 6),(qI rw cas evv),(la,qE fd)]++[]):=Has.ext S2 X3;have Y3:Ext [] h h3:=(X1.new X2 fr).trans X3 YF
   by_cases hd:k<=((lo+hi).fdiv 2).toNat
   ·rw [decide_eq_true hd];refine Xy [0] [1,2] [n0+0] (WE ..) rfl Xn (by rw [Xk];exact hw.2) rm hp3 S3 rfl rfl XS st2.dd st2.kk ?_;intro h4 hp4 S4 X4;rw [Xt];exact J9 rm hcl hkey hn0 hnd hkl f lo ((lo+hi).fdiv 2) (by omega) (by omega) (by omega) (by omega) (by omega) hp4 (Y3.new X4 fr) S4 Hn
   ·rw [decide_eq_false hd];refine Xy [0] [1,2] [n0+0] (WC ..) rfl (ob XH Xn) (by rw [Xk];exact hw.2) rm hp3 S3 rfl rfl XS st2.dd st2.kk ?_;intro h4 hp4 S4 X4;rw [Xt];exact J9 rm hcl hkey hn0 hnd hkl f ((lo+hi).fdiv 2+1) hi (by omega) (by omega) (by omega) (by omega) (by omega) hp4 (Y3.new X4 fr) S4 Hn
  ·refine Xi ?_;have hlk:lo=(k:Int):=by omega
   refine Xm (k:=140) [0] [1,2] [] (GN ..) rfl (ob (Ty (decide_eq_false hlt)) Xn) rm hp1 H1 rfl rfl (Xf (lm:=[]) [0] rfl rfl) (Xg hw.1) trivial ?_;intro h2 hp2 S2 X2;refine Hn h2 _ [kn15 w.params q5 vm] 6 ul hi uh hp2 (X1.trans X2 YF) (.inr ⟨_,_,rfl,rfl⟩) ?_;have S3:Has h2 ([(n0+0,fB w.params rw la q0 q1 q2 q3 q4 lo ul hi uh [kn15 w.params q5 vm] 6)]++[(qI rw cas evv),(la,qE fd)]):=S2;rw [hlk] at S3;exact S3.left
theorem BT{R:Result->Shared->Prop}{h:Heap}{n0 t0:Nat}{nd:Int}{q0 q1 q2 q3 q4:Nat}(rm:Room 140 A)(hcl:cas.length<100)(hkey:yo w la cas k g dr os h)(hn0:h.objs.size<=n0+0)(hnd:nd=nd)(hkl:k<=cas.length)
  {lo hi:Int}{h1:Heap}{tk ul uh:Nat}(h0:0<=lo)(hlo:lo<=k)(hkh:(k:Int)<=hi)(hhi:hi<=cas.length)(hp1:Prog (PP w) h1)(X1:Ext [] h h1) (H1:Has h1 ([(n0+0,fB w.params rw la q0 q1 q2 q3 q4 lo ul hi uh [] 5),(qI rw cas evv),(la,qE fd)]++[])) (Hn:∀h' tk' more e ul' hi' uh',Prog (PP w) h'->Ext [] h h'->(more=[]/\e=5\/∃q5 vm,more=[kn15 w.params q5 vm]/\e=6)->Has h' [(n0+0,fB w.params rw la q0 q1 q2 q3 q4 (k:Nat) ul' hi' uh' more e)]->R (.ok .next) ⟨h',g,dr,tk',os⟩): codeAny (model pw w) A (qv (W1 w) (W2 w) w.params n0 t0 rw la (cas.map Value.ref) evv nd).res.callee R ⟨h1,g,dr,tk,os⟩:=by
 have hw:=(yl (W1 w) (W2 w) w.params n0 t0 rw la (cas.map Value.ref) evv nd).wq;simp only [Prod.mk.injEq] at hw
 by_cases hlt:lo<hi
 ·have hmid:=CG h0 hlt;have hm0:0<=(lo+hi).fdiv 2:=by omega
  have hi':((lo+hi).fdiv 2).toNat<cas.length:=by omega
  obtain ⟨va,hva⟩:∃va,cas[((lo+hi).fdiv 2).toNat]? =some va:=⟨_,List.getElem?_eq_getElem hi'⟩;have hitem:(cas.map Value.ref)[((lo+hi).fdiv 2).toNat]? =some (.ref va):=by rw [List.getElem?_map,hva];rfl
  refine Xi ?_;refine Xh (k:=120) [0,1,2] [] [n0+0] (Wy ..) rfl (ob (Xj hm0 (by omega) hitem) (ob (ZU (by decide) (by decide)) (ob XH (ob (Ty (decide_eq_true hlt)) Xn)))) rm hp1 H1 rfl rfl (Xf (lm:=[(n0+0,fB w.params rw la q0 q1 q2 q3 q4 lo ul hi uh [] 5)]) [1,2] rfl rfl) (Xg hw.1) trivial ?_;intro h2 hp2 S2 X2 _ st2;have fr:∀a∈[n0+0],h.objs.size<=a:=fun a ha=>by rw [List.mem_singleton.mp ha];exact hn0
  refine hkey ((lo+hi).fdiv 2).toNat va hva _ _ h2 _ st2.rm hp2 (X1.new X2 fr) ?_;intro h3 tk2 hp3 X3;have S3:Has h3 ([(n0+0,fB w.params rw la q0 q1 q2 q3 q4 lo ul hi uh [kn15 w.params (tk+3) (.int ((lo+hi).fdiv 2) (tk+2))] 6),(qI rw cas evv),(la,qE fd)]++[]):=Has.ext S2 X3;have Y3:Ext [] h h3:=(X1.new X2 fr).trans X3 YF
  by_cases hd:k<=((lo+hi).fdiv 2).toNat
  ·rw [decide_eq_true hd];refine Xy [0] [1,2] [n0+0] (WF ..) rfl Xn (by rw [Xk];exact hw.2) rm hp3 S3 rfl rfl XS st2.dd st2.kk ?_;intro h4 hp4 S4 X4;rw [Xt];exact J9 rm hcl hkey hn0 hnd hkl 100 lo ((lo+hi).fdiv 2) (by omega) (by omega) (by omega) (by omega) (by omega) hp4 (Y3.new X4 fr) S4 Hn
  ·rw [decide_eq_false hd];refine Xy [0] [1,2] [n0+0] (WD ..) rfl (ob XH Xn) (by rw [Xk];exact hw.2) rm hp3 S3 rfl rfl XS st2.dd st2.kk ?_;intro h4 hp4 S4 X4;rw [Xt];exact J9 rm hcl hkey hn0 hnd hkl 100 ((lo+hi).fdiv 2+1) hi (by omega) (by omega) (by omega) (by omega) (by omega) hp4 (Y3.new X4 fr) S4 Hn
 ·refine Xi ?_;have hlk:lo=(k:Int):=by omega
  refine Xm (k:=140) [0] [1,2] [] (WG ..) rfl (ob (Ty (decide_eq_false hlt)) Xn) rm hp1 H1 rfl rfl (Xf (lm:=[]) [0] rfl rfl) (Xg hw.1) trivial ?_;intro h2 hp2 S2 X2;refine Hn h2 _ [] 5 ul hi uh hp2 (X1.trans X2 YF) (.inl ⟨rfl,rfl⟩) ?_;have S3:Has h2 ([(n0+0,fB w.params rw la q0 q1 q2 q3 q4 lo ul hi uh [] 5)]++[(qI rw cas evv),(la,qE fd)]):=S2;rw [hlk] at S3;exact S3.left
theorem YE{R:Result->Shared->Prop}{h:Heap}{tk:Nat}(rm:Room 160 A)(hp:Prog (PP w) h)(hcl:cas.length<100)(hkl:k<=cas.length)(H:Has h [(qI rw cas evv),(la,qE fd)])(hkey:yo w la cas k g dr os h) (Hn:∀h' tk' t,Prog (PP w) h'->Ext [] h h'->R (.ok (.ret (.int (k:Nat) t))) ⟨h',g,dr,tk',os⟩): codeAny (model pw w) A (.call (.ref 47) ⟨[.ref rw,.bool true],[((⟨⟨[107,101,121]⟩⟩:Str),.ref la)]⟩) R ⟨h,g,dr,tk,os⟩:=by
 refine XG (Nat.le_trans (lar) rm.d) (by rw [Yd];exact Nat.zero_le _) ?_;refine Xh (k:=140) [0] [1] [] (yl (W1 w) (W2 w) w.params h.objs.size tk rw la (cas.map Value.ref) evv (cas.length:Nat)).toSeg rfl
  (ob (XV (List.length_map ..) (by omega)) Xn) rm hp (by rw [List.append_nil];exact H) rfl rfl (Xf (lm:=[]) [1] rfl rfl) (Nat.le_refl _) trivial ?_
 intro h1 hp1 S1 X1 _ st1;refine BT (st1.rm.le (by decide)) hcl hkey (lar) rfl hkl (lo:=0) (Int.le_refl _) (by omega) (by omega) (Int.le_refl _) hp1 X1 S1 ?_;intro h2 tk2 more e ul' hi' uh' hp2 X2 hm S2;rcases hm with ⟨rfl,rfl⟩ | ⟨q5,vm,rfl,rfl⟩
 ·refine Xm (k:=160) [0] [] [] (WB ..) rfl Xn rm hp2 (by rw [List.append_nil];exact S2) rfl rfl (Xf (lm:=[]) [0] rfl rfl) st1.dd st1.kk ?_;intro h3 hp3 _ X3;exact Hn h3 _ _ hp3 (X2.trans X3 YF)
 ·refine Xm (k:=160) [0] [] [] (WA ..) rfl Xn rm hp2 (by rw [List.append_nil];exact S2) rfl rfl (Xf (lm:=[]) [0] rfl rfl) st1.dd st1.kk ?_;intro h3 hp3 _ X3;exact Hn h3 _ _ hp3 (X2.trans X3 YF)
end

abbrev V3:=Int×Int×Int
noncomputable def beyV(x c:V3):Bool:=beyB3 x.1 x.2.1 x.2.2 c.1 c.2.1 c.2.2
noncomputable abbrev v3O(x:V3)(t0 t1 t2 e:Nat):Obj:=listO [.int x.1 t0,.int x.2.1 t1,.int x.2.2 t2] e
structure ClockAt (E:List (Addr×Obj)) (va:Addr) (x:V3):Prop where
 ex:∃t0 t1 t2 e,(va,v3O x t0 t1 t2 e)∈E
structure RowAt (E:List (Addr×Obj)) (r:Addr) (xs:List V3):Prop where
 ex:∃(cas:List Addr) (e:Nat),(r,listO (cas.map Value.ref) e)∈E/\cas.length=xs.length/\∀(i:Nat) (va:Addr),cas[i]? =some va->∃x,xs[i]? =some x/\ClockAt E va x
section
variable{w:World}{A:Around}{g:Array GenState}{dr:Drawn}{os:OsState}
theorem TO{R:Result->Shared->Prop}{h:Heap}{tk:Nat}{la ck ct kc cl tup:Addr}{K x0:Value}{qn:Str}{uq:Nat}{rest:List Value}{x c:V3}{t0 t1 t2 s0 s1 s2 e e2:Nat}(rm:Room 100 A)(hp:Prog (PP w) h) (H:Has h [(la,qE (JK w.params kc cl tup)),(kc,YH K x0 qn uq rest),(cl,cellO (.ref ct)),(ct,v3O c s0 s1 s2 e2),(ck,v3O x t0 t1 t2 e)]) (Hn:∀h' tk',Prog (PP w) h'->Ext [] h h'->R (.ok (.ret (.bool (beyV x c)))) ⟨h',g,dr,tk',os⟩): codeAny (model pw w) A (.call (.ref la) ⟨[.ref ck],[]⟩) R ⟨h,g,dr,tk,os⟩:=by
 refine XG (Nat.le_trans (lar) rm.d) (by rw [Yd];exact Nat.zero_le _) ?_;refine Xh (k:=80)
  [0,1,2] [3,4] [] (SI ..).1.sg rfl Xn rm hp (by rw [List.append_nil];exact H) rfl rfl (Xf (lm:=[]) [1,2,3] rfl rfl) (Nat.le_refl _) trivial ?_
 intro h1 hp1 S1 X1 _ st1;have S1':Has h1 ([(h.objs.size+0,frameO [Ee w.params (tk+0) (.ref ck)] 1),(la,qE (JK w.params kc cl tup)),(kc,YH K x0 qn uq rest),(cl,cellO (.ref ct)),(ct,v3O c s0 s1 s2 e2),(ck,v3O x t0 t1 t2 e)]++[]):=S1;refine GO (st1.rm.le (by decide)) hp1 (S1'.left.pick [5,4] rfl) ?_;intro h2 tk2 hp2 X2;refine Xm (k:=100) [0] [] [h.objs.size+0] ((SI ..).2 ..).sg rfl Xn rm hp2 (Has.ext (Has.re S1' [0] rfl) X2) rfl rfl XS st1.dd st1.kk ?_;intro h3 hp3 _ X3;exact Hn h3 _ hp3 ((X1.trans X2 YF).new X3 fun a ha=>by rw [List.mem_singleton.mp ha];exact lar)
theorem qj{h:Heap}{la ct kc cl tup:Addr}{K x0:Value}{qn:Str}{uq:Nat}{rest:List Value}{c:V3}{s0 s1 s2 e2:Nat}{E:List (Addr×Obj)}{cas:List Addr}{xs:List V3}{k:Nat} (H:Has h ([(la,qE (JK w.params kc cl tup)),(kc,YH K x0 qn uq rest),(cl,cellO (.ref ct)),(ct,v3O c s0 s1 s2 e2)]++E)) (hc:∀(i:Nat) (va:Addr),cas[i]? =some va->∃x,xs[i]? =some x/\ClockAt E va x)(hk:∀(i:Nat) (x:V3),xs[i]? =some x->beyV x c=decide (k<=i)):yo w la cas k g dr os h:=by
 intro i va hva A' R' h' tk' rm' hp' X' Hk;obtain ⟨x,hx,hca⟩:=hc i va hva;obtain ⟨t0,t1,t2,e,hm⟩:=hca.ex;refine TO (rm'.le (by decide)) hp' (Has.ext (Has.with1 H hm) X') ?_;intro h'' tk'' hp'' X'';rw [hk i x hx];exact Hk h'' tk'' hp'' X''
structure CC where
 kc:Addr
 K:Value
 x0:Value
 qn:Str
 uq:Nat
 rest:List Value
noncomputable def CC.cells:Option CC->List (Addr×Obj)
 | none=>[(239,i239)]
 | some c=>[(239,Ze c.kc),(c.kc,YH c.K c.x0 c.qn c.uq c.rest)]
abbrev y5(w:World)(h:Heap) tk(h1:Heap) cs ct r0 r1 r2 es:=(Jz (W1 w) (W2 w) w.params h.objs.size tk h1.objs.size (tk+1) cs ct r0 r1 r2 es)
abbrev Ls(w:World)(h:Heap) tk(h1:Heap) cs ct r0 r1 r2 es:=(YH (UT (y5 w h tk h1 cs ct r0 r1 r2 es)) (UP (y5 w h tk h1 cs ct r0 r1 r2 es)) (US (y5 w h tk h1 cs ct r0 r1 r2 es)) (UQ (y5 w h tk h1 cs ct r0 r1 r2 es)) (UR (y5 w h tk h1 cs ct r0 r1 r2 es)))
abbrev JX(h:Heap)(w:World) tk cs:=((h.objs.size+0,frameO [kn27 w.params (tk+0) (.ref cs)] 1):Xp)
abbrev JV(h:Heap) ct:=((h.objs.size+1,cellO (.ref ct)):Xp)
abbrev QJ(h:Heap)(w:World) tk r0:=((h.objs.size+4,dctO [kn21 w.params (tk+1+0) (.ref r0)] 1):Xp)
abbrev J3(h1:Heap):Xp:=(239,Ze (h1.objs.size+6))
abbrev Vr(h:Heap) k0 u0 k1 u1 k2 u2:=((h.objs.size+3,listO [.int (k0:Nat) u0,.int (k1:Nat) u1,.int (k2:Nat) u2] 3):Xp)
abbrev Vp(h:Heap)(w:World) tk r1:=((h.objs.size+4,dctO [kn21 w.params (tk+1+0) (.ref r1)] 1):Xp)
abbrev Vo(h:Heap)(w:World) tk r2:=((h.objs.size+4,dctO [kn21 w.params (tk+1+0) (.ref r2)] 1):Xp)
abbrev yL(h:Heap):Xp:=(h.objs.size+3,listO [] 0)
abbrev Vn(h:Heap) k0 u0 k1 u1:=((h.objs.size+3,listO [.int (k0:Nat) u0,.int (k1:Nat) u1] 2):Xp)
abbrev Vi(h:Heap) k0 u0:=((h.objs.size+3,listO [.int (k0:Nat) u0] 1):Xp)
abbrev Qx(h:Heap) cs:=((h.objs.size+2,itO cs 1):Xp)
abbrev Dd(h1:Heap)(w:World)(h:Heap):Xp:=(h1.objs.size+7,qE (JK w.params (h1.objs.size+6) (h.objs.size+1) (h1.objs.size+0)))
theorem QT{R:Result->Shared->Prop}{h:Heap}{tk:Nat}{cs ct r0 r1 r2:Addr}{es s0 s1 s2 ec:Nat}{c3:V3}{xs0 xs1 xs2:List V3}{k0 k1 k2:Nat}{E:List (Addr×Obj)}(rm:Room 220 A)(hp:Prog (PP w) h) (H:Has h ([(239,i239)]++([(XL cs r0 r1 r2 es),(ct,v3O c3 s0 s1 s2 ec)]++E)))(R0:RowAt E r0 xs0)(R1:RowAt E r1 xs1)(R2:RowAt E r2 xs2)(hl0:xs0.length<100)(hl1:xs1.length<100)(hl2:xs2.length<100) (hk0:∀(i:Nat) (x:V3),xs0[i]? =some x->beyV x c3=decide (k0<=i))(hk1:∀(i:Nat) (x:V3),xs1[i]? =some x->beyV x c3=decide (k1<=i))(hk2:∀(i:Nat) (x:V3),xs2[i]? =some x->beyV x c3=decide (k2<=i)) (hb0:k0<=xs0.length)(hb1:k1<=xs1.length)(hb2:k2<=xs2.length) (Hn:∀h' tk' r u0 u1 u2 cc',Prog (PP w) h'->Ext [239] h h'->h.objs.size<=r->Has h' ([(r,listO [.int (k0:Nat) u0,.int (k1:Nat) u1,.int (k2:Nat) u2] 3)]++(CC.cells (some cc')++([(XL cs r0 r1 r2 es),(ct,v3O c3 s0 s1 s2 ec)]++E)))->R (.ok (.ret (.ref r))) ⟨h',g,dr,tk',os⟩): codeAny (model pw w) A (.call (.ref 242) ⟨[.ref cs,.ref ct],[]⟩) R ⟨h,g,dr,tk,os⟩:=by
 obtain ⟨cas0,e0,hm0,hle0,hca0⟩:=R0.ex;obtain ⟨cas1,e1,hm1,hle1,hca1⟩:=R1.ex;obtain ⟨cas2,e2,hm2,hle2,hca2⟩:=R2.ex;refine XG (Nat.le_trans (lar) rm.d) (by rw [Yd];exact Nat.zero_le _) ?_;refine Yn (k:=200) [1] [0,2] [] (qZ ..).toSeg rfl Xn rm hp H rfl rfl (Xf (lm:=[]) [5] rfl rfl) (Nat.le_refl _) trivial ?_;intro h1 hp1 S1 X1 _ st1;have hw:=(qZ (W1 w) (W2 w) w.params h.objs.size tk cs ct r0 r1 r2 es).wq;simp only [Prod.mk.injEq] at hw;have fr:∀a∈[h.objs.size+4,h.objs.size+3,h.objs.size+2,239],a∈[239]\/h.objs.size<=a:=by
  exact aL (.inr (lar)) (aL (.inr (lar)) (aL (.inr (lar)) (aL (.inl (.head _)) aN)))
 have Y1:Ext [239] h h1:=X1.to YF;refine Xi ?_;refine Yn (k:=180) [0,1,2,3,4,5,6] [7] [h.objs.size+4,h.objs.size+3,h.objs.size+2,239] (K6 ..) rfl Xn st1.rm hp1 S1 rfl rfl (aL (iL 0 rfl) (aL (iL 1 rfl) (aL (iL 2 rfl) (aL (iR 5 rfl) (aL (iR 6 rfl) (aL (iR 7 rfl) (aL (iL 3 rfl) aN))))))) (Xg hw.1) trivial ?_;intro h2 hp2 S2 X2 _ st2;have Y2:Ext [239] h h2:=Y1.trans X2 fr;have S2':Has h2 ([(Dd h1 w h),(QJ h w tk r0),(yL h),(Qx h cs),(JV h ct),(JX h w tk cs),(XL cs r0 r1 r2 es),(J3 h1),((h1.objs.size+6),(Ls w h tk h1 cs ct r0 r1 r2 es)),(ct,v3O c3 s0 s1 s2 ec)]++E):=Has.re (l:=[(Dd h1 w h),((h1.objs.size+6),(Ls w h tk h1 cs ct r0 r1 r2 es)),(QJ h w tk r0),(yL h),(Qx h cs),(JV h ct),(JX h w tk cs),(XL cs r0 r1 r2 es),(J3 h1),(ct,v3O c3 s0 s1 s2 ec)]) S2 [0,2,3,4,5,6,7,8,1,9] rfl;refine YE (st2.rm.le (by decide)) hp2 (by omega) (by omega) (Has.re (E:=[]) (by rw [List.append_nil];exact Has.with1 (Has.re S2' [0] rfl) hm0) [1,0] rfl |>.left) (qj (c:=c3) (K:=_) (Has.re S2' [0,8,4,9] rfl) hca0 hk0) ?_;intro h3 tk3 u0 hp3 X3;have S3:Has h3 ([(QJ h w tk r0),(yL h),(Qx h cs),(JV h ct),(JX h w tk cs),(XL cs r0 r1 r2 es),(J3 h1),((h1.objs.size+6),(Ls w h tk h1 cs ct r0 r1 r2 es)),(ct,v3O c3 s0 s1 s2 ec)]++E):=Has.ext (Has.re S2' [1,2,3,4,5,6,7,8,9] rfl) X3;have Y3:Ext [239] h h3:=Y2.trans X3 YF;refine Xh (k:=180) [0,1,2,3,4,5,6,7] [8] [h.objs.size+4,h.objs.size+3,h.objs.size+2,239] (UL _ ..).1.sg rfl Xn st1.rm hp3 S3 rfl rfl (aL (iL 0 rfl) (aL (iL 1 rfl) (aL (iL 2 rfl) (aL (iR 4 rfl) (aL (iR 5 rfl) (aL (iR 6 rfl) (aL (iR 7 rfl) (aL (iR 8 rfl) aN)))))))) st2.dd st2.kk ?_;intro h4 hp4 S4 X4 _ st4;have Y4:Ext [239] h h4:=Y3.trans X4 fr;have S4':Has h4 ([(h3.objs.size+1,qE (JK w.params (h1.objs.size+6) (h.objs.size+1) (h3.objs.size+0))),(Vp h w tk r1),(Vi h k0 u0),(h.objs.size+2,itO cs 2),(JV h ct),(JX h w tk cs),(XL cs r0 r1 r2 es),(J3 h1),((h1.objs.size+6),(Ls w h tk h1 cs ct r0 r1 r2 es)),(ct,v3O c3 s0 s1 s2 ec)]++E):=S4;refine YE (st4.rm.le (by decide)) hp4 (by omega) (by omega) (Has.re (E:=[]) (by rw [List.append_nil];exact Has.with1 (Has.re S4' [0] rfl) hm1) [1,0] rfl |>.left) (qj (c:=c3) (K:=_) (Has.re S4' [0,8,4,9] rfl) hca1 hk1) ?_;intro h5 tk5 u1 hp5 X5;have S5:Has h5 ([(Vp h w tk r1),(Vi h k0 u0),(h.objs.size+2,itO cs 2),(JV h ct),(JX h w tk cs),(XL cs r0 r1 r2 es),(J3 h1),((h1.objs.size+6),(Ls w h tk h1 cs ct r0 r1 r2 es)),(ct,v3O c3 s0 s1 s2 ec)]++E):=Has.ext (Has.re S4' [1,2,3,4,5,6,7,8,9] rfl) X5;have Y5:Ext [239] h h5:=Y4.trans X5 YF;refine Xh (k:=180) [0,1,2,3,4,5,6,7] [8] [h.objs.size+4,h.objs.size+3,h.objs.size+2,239] ((UL _ ..).2 ..).1.sg rfl Xn st1.rm hp5 S5 rfl rfl (aL (iL 0 rfl) (aL (iL 1 rfl) (aL (iL 2 rfl) (aL (iR 4 rfl) (aL (iR 5 rfl) (aL (iR 6 rfl) (aL (iR 7 rfl) (aL (iR 8 rfl) aN)))))))) st4.dd st4.kk ?_;intro h6 hp6 S6 X6 _ st6;have Y6:Ext [239] h h6:=Y5.trans X6 fr;have S6':Has h6 ([(h5.objs.size+1,qE (JK w.params (h1.objs.size+6) (h.objs.size+1) (h5.objs.size+0))),(Vo h w tk r2),(Vn h k0 u0 k1 u1),(h.objs.size+2,itO cs 3),(JV h ct),(JX h w tk cs),(XL cs r0 r1 r2 es),(J3 h1),((h1.objs.size+6),(Ls w h tk h1 cs ct r0 r1 r2 es)),(ct,v3O c3 s0 s1 s2 ec)]++E):=S6;refine YE (st6.rm.le (by decide)) hp6 (by omega) (by omega) (Has.re (E:=[]) (by rw [List.append_nil];exact Has.with1 (Has.re S6' [0] rfl) hm2) [1,0] rfl |>.left) (qj (c:=c3) (K:=_) (Has.re S6' [0,8,4,9] rfl) hca2 hk2) ?_;intro h7 tk7 u2 hp7 X7;have S7:Has h7 ([(Vo h w tk r2),(Vn h k0 u0 k1 u1),(h.objs.size+2,itO cs 3),(JV h ct),(JX h w tk cs),(XL cs r0 r1 r2 es),(J3 h1),((h1.objs.size+6),(Ls w h tk h1 cs ct r0 r1 r2 es)),(ct,v3O c3 s0 s1 s2 ec)]++E):=Has.ext (Has.re S6' [1,2,3,4,5,6,7,8,9] rfl) X7;have Y7:Ext [239] h h7:=Y6.trans X7 YF;refine Xm (k:=200) [0,1,2,3,4,5] [6,7,8] [h.objs.size+4,h.objs.size+3,h.objs.size+2,h.objs.size+1] (((UL _ ..).2 ..).2 ..).sg rfl Xn st1.rm hp7 S7 rfl rfl (aL (iL 0 rfl) (aL (iL 1 rfl) (aL (iL 2 rfl) (aL (iL 3 rfl) (aL (iR 2 rfl) (aL (iR 3 rfl) aN)))))) st6.dd st6.kk ?_;intro h8 hp8 S8 X8;have Y8:Ext [239] h h8:=Y7.new X8 (by
  exact aL (lar) (aL (lar) (aL (lar) (aL (lar) aN))))
 refine XF (k:=220) [0,2] [1,3,4,5,6] [h.objs.size+4,h.objs.size+0] ((NY ..).2.2 _ ..).sg rfl Xn rm hp8 S8 rfl rfl XS st1.dd st1.kk ?_;intro hh hpp S X;refine Hn hh _ (h.objs.size+3) u0 u1 u2 ⟨(h1.objs.size+6),(UT (y5 w h tk h1 cs ct r0 r1 r2 es)),(UP (y5 w h tk h1 cs ct r0 r1 r2 es)),(US (y5 w h tk h1 cs ct r0 r1 r2 es)),(UQ (y5 w h tk h1 cs ct r0 r1 r2 es)),(UR (y5 w h tk h1 cs ct r0 r1 r2 es))⟩ hpp (Y8.new X ?_) (lar) ?_
 ·exact aL (lar) (aL (lar) aN)
 ·exact Has.re (l:=[(Vr h k0 u0 k1 u1 k2 u2),(XL cs r0 r1 r2 es),(J3 h1),((h1.objs.size+6),(Ls w h tk h1 cs ct r0 r1 r2 es)),(ct,v3O c3 s0 s1 s2 ec)]) (l':=[(Vr h k0 u0 k1 u1 k2 u2),(J3 h1),((h1.objs.size+6),(Ls w h tk h1 cs ct r0 r1 r2 es)),(XL cs r0 r1 r2 es),(ct,v3O c3 s0 s1 s2 ec)]) S [0,2,3,1,4] rfl
abbrev J6(c:CC):=(YH c.K c.x0 c.qn c.uq c.rest)
theorem QU{R:Result->Shared->Prop}{h:Heap}{tk:Nat}{c:CC}{cs ct r0 r1 r2:Addr}{es s0 s1 s2 ec:Nat}{c3:V3}{xs0 xs1 xs2:List V3}{k0 k1 k2:Nat}{E:List (Addr×Obj)}(rm:Room 220 A)(hp:Prog (PP w) h) (H:Has h ([(239,Ze c.kc),(c.kc,YH c.K c.x0 c.qn c.uq c.rest)]++([(XL cs r0 r1 r2 es),(ct,v3O c3 s0 s1 s2 ec)]++E)))(R0:RowAt E r0 xs0)(R1:RowAt E r1 xs1)(R2:RowAt E r2 xs2)(hl0:xs0.length<100)(hl1:xs1.length<100)(hl2:xs2.length<100) (hk0:∀(i:Nat) (x:V3),xs0[i]? =some x->beyV x c3=decide (k0<=i))(hk1:∀(i:Nat) (x:V3),xs1[i]? =some x->beyV x c3=decide (k1<=i))(hk2:∀(i:Nat) (x:V3),xs2[i]? =some x->beyV x c3=decide (k2<=i)) (hb0:k0<=xs0.length)(hb1:k1<=xs1.length)(hb2:k2<=xs2.length) (Hn:∀h' tk' r u0 u1 u2 cc',Prog (PP w) h'->Ext [239] h h'->h.objs.size<=r->Has h' ([(r,listO [.int (k0:Nat) u0,.int (k1:Nat) u1,.int (k2:Nat) u2] 3)]++(CC.cells (some cc')++([(XL cs r0 r1 r2 es),(ct,v3O c3 s0 s1 s2 ec)]++E)))->R (.ok (.ret (.ref r))) ⟨h',g,dr,tk',os⟩): codeAny (model pw w) A (.call (.ref 242) ⟨[.ref cs,.ref ct],[]⟩) R ⟨h,g,dr,tk,os⟩:=by
 obtain ⟨cas0,e0,hm0,hle0,hca0⟩:=R0.ex;obtain ⟨cas1,e1,hm1,hle1,hca1⟩:=R1.ex;obtain ⟨cas2,e2,hm2,hle2,hca2⟩:=R2.ex;refine XG (Nat.le_trans (lar) rm.d) (by rw [Yd];exact Nat.zero_le _) ?_;refine Yn (k:=200) [2] [0,1,3] [] (qZ ..).toSeg rfl Xn rm hp H rfl rfl (Xf (lm:=[]) [5] rfl rfl) (Nat.le_refl _) trivial ?_;intro h1 hp1 S1 X1 _ st1;have hw:=(qZ (W1 w) (W2 w) w.params h.objs.size tk cs ct r0 r1 r2 es).wq;simp only [Prod.mk.injEq] at hw;have fr:∀a∈[h.objs.size+4,h.objs.size+3,h.objs.size+2,239],a∈[239]\/h.objs.size<=a:=by
  exact aL (.inr (lar)) (aL (.inr (lar)) (aL (.inr (lar)) (aL (.inl (.head _)) aN)))
 have Y1:Ext [239] h h1:=X1.to YF;refine Xi ?_;refine Yn (k:=180) [0,1,2,3,4,5,6,7] [8] [h.objs.size+4,h.objs.size+3,h.objs.size+2,239] (Du _ ..).1.sg rfl Xn st1.rm hp1 S1 rfl rfl (aL (iL 0 rfl) (aL (iL 1 rfl) (aL (iL 2 rfl) (aL (iR 4 rfl) (aL (iR 5 rfl) (aL (iR 6 rfl) (aL (iR 7 rfl) (aL (iR 8 rfl) aN)))))))) (Xg hw.1) trivial ?_;intro h2 hp2 S2 X2 _ st2;have Y2:Ext [239] h h2:=Y1.trans X2 fr;have S2':Has h2 ([(h1.objs.size+1,qE (JK w.params c.kc (h.objs.size+1) (h1.objs.size+0))),(QJ h w tk r0),(yL h),(Qx h cs),(JV h ct),(JX h w tk cs),(XL cs r0 r1 r2 es),(239,Ze c.kc),(c.kc,(J6 c)),(ct,v3O c3 s0 s1 s2 ec)]++E):=Has.re (l:=[(h1.objs.size+1,qE (JK w.params c.kc (h.objs.size+1) (h1.objs.size+0))),(QJ h w tk r0),(yL h),(Qx h cs),(JV h ct),(JX h w tk cs),(XL cs r0 r1 r2 es),(239,Ze c.kc),(c.kc,(J6 c)),(ct,v3O c3 s0 s1 s2 ec)]) S2 [0,1,2,3,4,5,6,7,8,9] rfl;refine YE (st2.rm.le (by decide)) hp2 (by omega) (by omega) (Has.re (E:=[]) (by rw [List.append_nil];exact Has.with1 (Has.re S2' [0] rfl) hm0) [1,0] rfl |>.left) (qj (c:=c3) (K:=_) (Has.re S2' [0,8,4,9] rfl) hca0 hk0) ?_;intro h3 tk3 u0 hp3 X3;have S3:Has h3 ([(QJ h w tk r0),(yL h),(Qx h cs),(JV h ct),(JX h w tk cs),(XL cs r0 r1 r2 es),(239,Ze c.kc),(c.kc,(J6 c)),(ct,v3O c3 s0 s1 s2 ec)]++E):=Has.ext (Has.re S2' [1,2,3,4,5,6,7,8,9] rfl) X3;have Y3:Ext [239] h h3:=Y2.trans X3 YF;refine Xh (k:=180) [0,1,2,3,4,5,6,7] [8] [h.objs.size+4,h.objs.size+3,h.objs.size+2,239] (UK _ ..).1.sg rfl Xn st1.rm hp3 S3 rfl rfl (aL (iL 0 rfl) (aL (iL 1 rfl) (aL (iL 2 rfl) (aL (iR 4 rfl) (aL (iR 5 rfl) (aL (iR 6 rfl) (aL (iR 7 rfl) (aL (iR 8 rfl) aN)))))))) st2.dd st2.kk ?_;intro h4 hp4 S4 X4 _ st4;have Y4:Ext [239] h h4:=Y3.trans X4 fr;have S4':Has h4 ([(h3.objs.size+1,qE (JK w.params c.kc (h.objs.size+1) (h3.objs.size+0))),(Vp h w tk r1),(Vi h k0 u0),(h.objs.size+2,itO cs 2),(JV h ct),(JX h w tk cs),(XL cs r0 r1 r2 es),(239,Ze c.kc),(c.kc,(J6 c)),(ct,v3O c3 s0 s1 s2 ec)]++E):=S4;refine YE (st4.rm.le (by decide)) hp4 (by omega) (by omega) (Has.re (E:=[]) (by rw [List.append_nil];exact Has.with1 (Has.re S4' [0] rfl) hm1) [1,0] rfl |>.left) (qj (c:=c3) (K:=_) (Has.re S4' [0,8,4,9] rfl) hca1 hk1) ?_;intro h5 tk5 u1 hp5 X5;have S5:Has h5 ([(Vp h w tk r1),(Vi h k0 u0),(h.objs.size+2,itO cs 2),(JV h ct),(JX h w tk cs),(XL cs r0 r1 r2 es),(239,Ze c.kc),(c.kc,(J6 c)),(ct,v3O c3 s0 s1 s2 ec)]++E):=Has.ext (Has.re S4' [1,2,3,4,5,6,7,8,9] rfl) X5;have Y5:Ext [239] h h5:=Y4.trans X5 YF;refine Xh (k:=180) [0,1,2,3,4,5,6,7] [8] [h.objs.size+4,h.objs.size+3,h.objs.size+2,239] ((UK _ ..).2 ..).1.sg rfl Xn st1.rm hp5 S5 rfl rfl (aL (iL 0 rfl) (aL (iL 1 rfl) (aL (iL 2 rfl) (aL (iR 4 rfl) (aL (iR 5 rfl) (aL (iR 6 rfl) (aL (iR 7 rfl) (aL (iR 8 rfl) aN)))))))) st4.dd st4.kk ?_;intro h6 hp6 S6 X6 _ st6;have Y6:Ext [239] h h6:=Y5.trans X6 fr;have S6':Has h6 ([(h5.objs.size+1,qE (JK w.params c.kc (h.objs.size+1) (h5.objs.size+0))),(Vo h w tk r2),(Vn h k0 u0 k1 u1),(h.objs.size+2,itO cs 3),(JV h ct),(JX h w tk cs),(XL cs r0 r1 r2 es),(239,Ze c.kc),(c.kc,(J6 c)),(ct,v3O c3 s0 s1 s2 ec)]++E):=S6;refine YE (st6.rm.le (by decide)) hp6 (by omega) (by omega) (Has.re (E:=[]) (by rw [List.append_nil];exact Has.with1 (Has.re S6' [0] rfl) hm2) [1,0] rfl |>.left) (qj (c:=c3) (K:=_) (Has.re S6' [0,8,4,9] rfl) hca2 hk2) ?_;intro h7 tk7 u2 hp7 X7;have S7:Has h7 ([(Vo h w tk r2),(Vn h k0 u0 k1 u1),(h.objs.size+2,itO cs 3),(JV h ct),(JX h w tk cs),(XL cs r0 r1 r2 es),(239,Ze c.kc),(c.kc,(J6 c)),(ct,v3O c3 s0 s1 s2 ec)]++E):=Has.ext (Has.re S6' [1,2,3,4,5,6,7,8,9] rfl) X7;have Y7:Ext [239] h h7:=Y6.trans X7 YF;refine Xm (k:=200) [0,1,2,3,4,5] [6,7,8] [h.objs.size+4,h.objs.size+3,h.objs.size+2,h.objs.size+1] (((UK _ ..).2 ..).2 ..).sg rfl Xn st1.rm hp7 S7 rfl rfl (aL (iL 0 rfl) (aL (iL 1 rfl) (aL (iL 2 rfl) (aL (iL 3 rfl) (aL (iR 2 rfl) (aL (iR 3 rfl) aN)))))) st6.dd st6.kk ?_;intro h8 hp8 S8 X8;have Y8:Ext [239] h h8:=Y7.new X8 (by
  exact aL (lar) (aL (lar) (aL (lar) (aL (lar) aN))))
 refine XF (k:=220) [0,2] [1,3,4,5,6] [h.objs.size+4,h.objs.size+0] ((NY ..).2.2 _ ..).sg rfl Xn rm hp8 S8 rfl rfl XS st1.dd st1.kk ?_;intro hh hpp S X;refine Hn hh _ (h.objs.size+3) u0 u1 u2 ⟨c.kc,c.K,c.x0,c.qn,c.uq,c.rest⟩ hpp (Y8.new X ?_) (lar) ?_
 ·exact aL (lar) (aL (lar) aN)
 ·exact Has.re (l:=[(Vr h k0 u0 k1 u1 k2 u2),(XL cs r0 r1 r2 es),(239,Ze c.kc),(c.kc,(J6 c)),(ct,v3O c3 s0 s1 s2 ec)]) (l':=[(Vr h k0 u0 k1 u1 k2 u2),(239,Ze c.kc),(c.kc,(J6 c)),(XL cs r0 r1 r2 es),(ct,v3O c3 s0 s1 s2 ec)]) S [0,2,3,1,4] rfl
end

theorem Has.sub{h:Heap}{L L':List (Addr×Obj)}(H:Has h L)(s:L'.Sublist L):Has h L':=
 ⟨fun p hp=>H.own p (s.mem hp),(s.map _).nodup H.nodup,fun p hp=>H.apart p (s.mem hp)⟩
section
variable{w:World}{A:Around}{g:Array GenState}{dr:Drawn}{os:OsState}
abbrev YZ(h0:Heap):Xp:=(h0.objs.size+3,cellO (.ref (h0.objs.size+6)))
abbrev Ys(h2:Heap):Xp:=(h2.objs.size+3,dctO [] 0)
abbrev YI(h0:Heap):Xp:=(h0.objs.size+0,frameO [] 0)
abbrev JW(h2:Heap):Xp:=(h2.objs.size+2,listO [] 0)
abbrev Fr(h2:Heap) tk2:=((h2.objs.size+4,cellO (.int 0 ((tk2+3)+0))):Xp)
abbrev qV(h2:Heap) tk5:=((h2.objs.size+4,cellO (.int 1 (tk5+0))):Xp)
abbrev qU(h2:Heap) tk7:=((h2.objs.size+4,cellO (.int 2 (tk7+0))):Xp)
abbrev Vv(h2:Heap):ZQ:=[(h2.objs.size+4,XA),(Ys h2),(JW h2),(h2.objs.size+1,rgO 0 3)]
abbrev J5(h2:Heap):Xp:=(h2.objs.size+1,rgO 1 2)
abbrev ZJ(h2:Heap):Xp:=(h2.objs.size+1,rgO 2 1)
abbrev ZH(h2:Heap):Xp:=(h2.objs.size+1,rgO 3 0)
abbrev GA(h0:Heap)(w:World) q vq:=((h0.objs.size+7,dctO [YS w.params q vq] 1):Xp)
abbrev yG(h0:Heap) le:=((h0.objs.size+6,listO [] le):Xp)
abbrev Vk(h2:Heap) tk2:=([(Fr h2 tk2),(Ys h2),(JW h2),(J5 h2)]:ZQ)
abbrev Uw(h2:Heap) v0 v1:=((h2.objs.size+2,listO [.int (mxL [0]) v0,.int (mxL [0]) v1] 2):Xp)
abbrev Vf(h0:Heap)(w:World) q vq:=([(GA h0 w q vq),(h0.objs.size+3,XA)]:ZQ)
abbrev Uq(h2:Heap) v0:=((h2.objs.size+2,listO [.int (mxL [0]) v0] 1):Xp)
theorem BV{R:Result->Shared->Prop}{h0 h2:Heap}{n0 t0 tk2:Nat}{cs ct:Addr}{q:Nat}{vq:Value}{le:Nat}(rm:Room 140 A)(hn:n0=h0.objs.size)(st:Stop true 120 A (YQ (W1 w) (W2 w) w.params n0 t0 cs ct))(hp2:Prog (PP w) h2)(Y2:Ext [] h0 h2) (H2:Has h2 ([(GA h0 w q vq),(yG h0 le),(h0.objs.size+3,XA),(YI h0)]++[])) (Hn:∀h' tk' r v0 v1 v2,Prog (PP w) h'->Ext [] h0 h'->h0.objs.size<=r->Has h' [(r,listO [.int (mxL [0]) v0,.int (mxL [0]) v1,.int (mxL [0]) v2] 3)]->R (.ok (.ret (.ref r))) ⟨h',g,dr,tk',os⟩):
  Goes true (model pw w) A (qOf R) (eOf R) (YQ (W1 w) (W2 w) w.params n0 t0 cs ct).res.K (YQ (W1 w) (W2 w) w.params n0 t0 cs ct).res.c ((YQ (W1 w) (W2 w) w.params n0 t0 cs ct).res.k (.ok .next)) ⟨h2,g,dr,tk2,os⟩:=by
 subst hn;refine Xh (k:=120) [0,2,3] [1] [h0.objs.size+7,h0.objs.size+3] (Zj ..).toSeg rfl Xn rm hp2 H2 rfl rfl (Xf (lm:=(Vf h0 w q vq)) [5] rfl rfl) st.dd st.kk ?_;intro h3 hp3 S3 X3 _ st3;have fr3:∀a∈[h0.objs.size+7,h0.objs.size+3],h0.objs.size<=a:=by
  exact aL (lar) (aL (lar) aN)
 have Y3:Ext [] h0 h3:=Y2.new X3 fr3;have hw:=(Zj (W1 w) (W2 w) w.params h0.objs.size t0 h2.objs.size tk2 cs ct q vq).wq;simp only [Prod.mk.injEq] at hw;have fr:∀a∈[h2.objs.size+4,h2.objs.size+3,h2.objs.size+2,h2.objs.size+1],h0.objs.size<=a:=by
  exact aL (Nat.le_trans Y2.size (lar)) (aL (Nat.le_trans Y2.size (lar)) (aL (Nat.le_trans Y2.size (lar)) (aL (Nat.le_trans Y2.size (lar)) aN)))
 refine Xi ?_;refine Yn (k:=100) [0,1,2,3,4,6] [5] [h2.objs.size+4,h2.objs.size+3,h2.objs.size+2,h2.objs.size+1] (DE _ ..).1.sg rfl Xn st3.rm hp3 S3 rfl rfl (Xf (lm:=(Vv h2)) [5,6] rfl rfl) (Xg hw.1) trivial ?_;intro h4 hp4 S4 X4 _ st4;have Y4:Ext [] h0 h4:=Y3.new X4 fr;have S4':Has h4 ([(h3.objs.size+6,listO [.int 0 ((tk2+3)+1)] 0),(Fr h2 tk2),(Ys h2),(JW h2),(J5 h2),(YZ h0),(yG h0 le),(YI h0)]++[]):=S4;refine Yf st4.rm hp4 Ints.one (S4'.left.pick [0] rfl) ?_;intro h5 tk5 v0 hp5 X5;have S5:Has h5 ([(Fr h2 tk2),(Ys h2),(JW h2),(J5 h2),(YZ h0),(yG h0 le),(YI h0)]++[]):=Has.ext (Has.re S4' [1,2,3,4,5,6,7] rfl) X5;have Y5:Ext [] h0 h5:=Y4.trans X5 YF;refine Xh (k:=100) [0,1,2,3,4,5] [6] [h2.objs.size+4,h2.objs.size+3,h2.objs.size+2,h2.objs.size+1] (M8 _ ..).1.sg rfl Xn st3.rm hp5 S5 rfl rfl (Xf (lm:=(Vk h2 tk2)) [5,6] rfl rfl) st4.dd st4.kk ?_;intro h6 hp6 S6 X6 _ st6;have Y6:Ext [] h0 h6:=Y5.new X6 fr;have S6':Has h6 ([(h5.objs.size+6,listO [.int 0 (tk5+1)] 0),(qV h2 tk5),(Ys h2),(Uq h2 v0),(ZJ h2),(YZ h0),(yG h0 le),(YI h0)]++[]):=S6;refine Yf st6.rm hp6 Ints.one (S6'.left.pick [0] rfl) ?_;intro h7 tk7 v1 hp7 X7;have S7:Has h7 ([(qV h2 tk5),(Ys h2),(Uq h2 v0),(ZJ h2),(YZ h0),(yG h0 le),(YI h0)]++[]):=Has.ext (Has.re S6' [1,2,3,4,5,6,7] rfl) X7;have Y7:Ext [] h0 h7:=Y6.trans X7 YF;refine Xh (k:=100) [0,1,2,3,4,5] [6] [h2.objs.size+4,h2.objs.size+3,h2.objs.size+2,h2.objs.size+1] ((M8 _ ..).2 ..).1.sg rfl Xn st3.rm hp7 S7 rfl rfl (Xf (lm:=[(qV h2 tk5),(Ys h2),(Uq h2 v0),(ZJ h2)]) [5,6] rfl rfl) st6.dd st6.kk ?_;intro h8 hp8 S8 X8 _ st8;have Y8:Ext [] h0 h8:=Y7.new X8 fr;have S8':Has h8 ([(h7.objs.size+6,listO [.int 0 (tk7+1)] 0),(qU h2 tk7),(Ys h2),(Uw h2 v0 v1),(ZH h2),(YZ h0),(yG h0 le),(YI h0)]++[]):=S8;refine Yf st8.rm hp8 Ints.one (S8'.left.pick [0] rfl) ?_;intro h9 tk9 v2 hp9 X9;have S9:Has h9 ([(qU h2 tk7),(Ys h2),(Uw h2 v0 v1),(ZH h2),(YZ h0),(yG h0 le),(YI h0)]++[]):=Has.ext (Has.re S8' [1,2,3,4,5,6,7] rfl) X9;have Y9:Ext [] h0 h9:=Y8.trans X9 YF;refine Xm (k:=120) [0,1,2,3,4,5] [6] [h2.objs.size+4,h2.objs.size+3,h2.objs.size+2,h2.objs.size+1] (((M8 _ ..).2 ..).2 ..).sg rfl Xn st3.rm hp9 S9 rfl rfl (Xf (lm:=[(qU h2 tk7),(Ys h2),(Uw h2 v0 v1),(ZH h2)]) [2,3] rfl rfl) st8.dd st8.kk ?_;intro h10 hp10 S10 X10;have Y10:Ext [] h0 h10:=Y9.new X10 fr;refine XF (k:=140) [0,4] [1,2,3] [h2.objs.size+3,h0.objs.size+0] ((qT _ ..).1 ..).sg rfl Xn rm hp10 S10 rfl rfl XS st3.dd st3.kk ?_;intro hh hpp S X;refine Hn hh _ (h2.objs.size+2) v0 v1 v2 hpp (Y10.new X ?_) (Nat.le_trans Y2.size (lar)) ?_
 ·exact aL (Nat.le_trans Y2.size (lar)) (aL (lar) aN)
 ·exact (Has.re2 S [0] rfl).left
abbrev yK(h0:Heap) k0 le:=((h0.objs.size+6,listO [.ref k0] le):Xp)
abbrev Uy(h2:Heap)(x0:V3) v0 v1:=((h2.objs.size+2,listO [.int (mxL [0,x0.1]) v0,.int (mxL [0,x0.2.1]) v1] 2):Xp)
abbrev Up(h2:Heap)(x0:V3) v0:=((h2.objs.size+2,listO [.int (mxL [0,x0.1]) v0] 1):Xp)
theorem qB{R:Result->Shared->Prop}{h0 h2:Heap}{n0 t0 tk2:Nat}{cs ct:Addr}{q:Nat}{vq:Value}{le:Nat}{k0:Addr}{x0:V3}{u00 u01 u02 w0:Nat}(rm:Room 140 A)(hn:n0=h0.objs.size)(st:Stop true 120 A (YQ (W1 w) (W2 w) w.params n0 t0 cs ct))(hp2:Prog (PP w) h2)(Y2:Ext [] h0 h2) (H2:Has h2 ([(GA h0 w q vq),(yK h0 k0 le),(h0.objs.size+3,XA),(YI h0),(k0,v3O x0 u00 u01 u02 w0)]++[])) (Hn:∀h' tk' r v0 v1 v2,Prog (PP w) h'->Ext [] h0 h'->h0.objs.size<=r->Has h' [(r,listO [.int (mxL [0,x0.1]) v0,.int (mxL [0,x0.2.1]) v1,.int (mxL [0,x0.2.2]) v2] 3)]->R (.ok (.ret (.ref r))) ⟨h',g,dr,tk',os⟩):
  Goes true (model pw w) A (qOf R) (eOf R) (YQ (W1 w) (W2 w) w.params n0 t0 cs ct).res.K (YQ (W1 w) (W2 w) w.params n0 t0 cs ct).res.c ((YQ (W1 w) (W2 w) w.params n0 t0 cs ct).res.k (.ok .next)) ⟨h2,g,dr,tk2,os⟩:=by
 subst hn;refine Xh (k:=120) [0,2,3] [1,4] [h0.objs.size+7,h0.objs.size+3] (Zj ..).toSeg rfl Xn rm hp2 H2 rfl rfl (Xf (lm:=(Vf h0 w q vq)) [5] rfl rfl) st.dd st.kk ?_;intro h3 hp3 S3 X3 _ st3;have fr3:∀a∈[h0.objs.size+7,h0.objs.size+3],h0.objs.size<=a:=by
  exact aL (lar) (aL (lar) aN)
 have Y3:Ext [] h0 h3:=Y2.new X3 fr3;have hw:=(Zj (W1 w) (W2 w) w.params h0.objs.size t0 h2.objs.size tk2 cs ct q vq).wq;simp only [Prod.mk.injEq] at hw;have fr:∀a∈[h2.objs.size+4,h2.objs.size+3,h2.objs.size+2,h2.objs.size+1],h0.objs.size<=a:=by
  exact aL (Nat.le_trans Y2.size (lar)) (aL (Nat.le_trans Y2.size (lar)) (aL (Nat.le_trans Y2.size (lar)) (aL (Nat.le_trans Y2.size (lar)) aN)))
 refine Xi ?_;refine Yn (k:=100) [0,1,2,3,4,6,7] [5] [h2.objs.size+4,h2.objs.size+3,h2.objs.size+2,h2.objs.size+1] (Ws _ ..).1.sg rfl Xn st3.rm hp3 S3 rfl rfl (Xf (lm:=(Vv h2)) [5,6,7] rfl rfl) (Xg hw.1) trivial ?_;intro h4 hp4 S4 X4 _ st4;have Y4:Ext [] h0 h4:=Y3.new X4 fr;have S4':Has h4 ([(h3.objs.size+6,listO [.int 0 ((tk2+3)+1),.int x0.1 u00] 0),(Fr h2 tk2),(Ys h2),(JW h2),(J5 h2),(YZ h0),(yK h0 k0 le),(k0,v3O x0 u00 u01 u02 w0),(YI h0)]++[]):=S4;refine Yf st4.rm hp4 (Ints.push Ints.one) (S4'.left.pick [0] rfl) ?_;intro h5 tk5 v0 hp5 X5;have S5:Has h5 ([(Fr h2 tk2),(Ys h2),(JW h2),(J5 h2),(YZ h0),(yK h0 k0 le),(k0,v3O x0 u00 u01 u02 w0),(YI h0)]++[]):=Has.ext (Has.re S4' [1,2,3,4,5,6,7,8] rfl) X5;have Y5:Ext [] h0 h5:=Y4.trans X5 YF;refine Xh (k:=100) [0,1,2,3,4,5,6] [7] [h2.objs.size+4,h2.objs.size+3,h2.objs.size+2,h2.objs.size+1] (M7 _ ..).1.sg rfl Xn st3.rm hp5 S5 rfl rfl (Xf (lm:=(Vk h2 tk2)) [5,6,7] rfl rfl) st4.dd st4.kk ?_;intro h6 hp6 S6 X6 _ st6;have Y6:Ext [] h0 h6:=Y5.new X6 fr;have S6':Has h6 ([(h5.objs.size+6,listO [.int 0 (tk5+1),.int x0.2.1 u01] 0),(qV h2 tk5),(Ys h2),(Up h2 x0 v0),(ZJ h2),(YZ h0),(yK h0 k0 le),(k0,v3O x0 u00 u01 u02 w0),(YI h0)]++[]):=S6;refine Yf st6.rm hp6 (Ints.push Ints.one) (S6'.left.pick [0] rfl) ?_;intro h7 tk7 v1 hp7 X7;have S7:Has h7 ([(qV h2 tk5),(Ys h2),(Up h2 x0 v0),(ZJ h2),(YZ h0),(yK h0 k0 le),(k0,v3O x0 u00 u01 u02 w0),(YI h0)]++[]):=Has.ext (Has.re S6' [1,2,3,4,5,6,7,8] rfl) X7;have Y7:Ext [] h0 h7:=Y6.trans X7 YF;refine Xh (k:=100) [0,1,2,3,4,5,6] [7] [h2.objs.size+4,h2.objs.size+3,h2.objs.size+2,h2.objs.size+1] ((M7 _ ..).2 ..).1.sg rfl Xn st3.rm hp7 S7 rfl rfl (Xf (lm:=[(qV h2 tk5),(Ys h2),(Up h2 x0 v0),(ZJ h2)]) [5,6,7] rfl rfl) st6.dd st6.kk ?_;intro h8 hp8 S8 X8 _ st8;have Y8:Ext [] h0 h8:=Y7.new X8 fr;have S8':Has h8 ([(h7.objs.size+6,listO [.int 0 (tk7+1),.int x0.2.2 u02] 0),(qU h2 tk7),(Ys h2),(Uy h2 x0 v0 v1),(ZH h2),(YZ h0),(yK h0 k0 le),(k0,v3O x0 u00 u01 u02 w0),(YI h0)]++[]):=S8;refine Yf st8.rm hp8 (Ints.push Ints.one) (S8'.left.pick [0] rfl) ?_;intro h9 tk9 v2 hp9 X9;have S9:Has h9 ([(qU h2 tk7),(Ys h2),(Uy h2 x0 v0 v1),(ZH h2),(YZ h0),(yK h0 k0 le),(k0,v3O x0 u00 u01 u02 w0),(YI h0)]++[]):=Has.ext (Has.re S8' [1,2,3,4,5,6,7,8] rfl) X9;have Y9:Ext [] h0 h9:=Y8.trans X9 YF;refine Xm (k:=120) [0,1,2,3,4,5,6] [7] [h2.objs.size+4,h2.objs.size+3,h2.objs.size+2,h2.objs.size+1] (((M7 _ ..).2 ..).2 ..).sg rfl Xn st3.rm hp9 S9 rfl rfl (Xf (lm:=[(qU h2 tk7),(Ys h2),(Uy h2 x0 v0 v1),(ZH h2)]) [2,3,4] rfl rfl) st8.dd st8.kk ?_;intro h10 hp10 S10 X10;have Y10:Ext [] h0 h10:=Y9.new X10 fr;refine XF (k:=140) [0,5] [1,2,3,4] [h2.objs.size+3,h0.objs.size+0] ((qT _ ..).1 ..).sg rfl Xn rm hp10 S10 rfl rfl XS st3.dd st3.kk ?_;intro hh hpp S X;refine Hn hh _ (h2.objs.size+2) v0 v1 v2 hpp (Y10.new X ?_) (Nat.le_trans Y2.size (lar)) ?_
 ·exact aL (Nat.le_trans Y2.size (lar)) (aL (lar) aN)
 ·exact (Has.re2 S [0] rfl).left
abbrev yM(h0:Heap) k0 k1 le:=((h0.objs.size+6,listO [.ref k0,.ref k1] le):Xp)
abbrev UA(h2:Heap)(x0:V3)(x1:V3) v0 v1:=((h2.objs.size+2,listO [.int (mxL [0,x0.1,x1.1]) v0,.int (mxL [0,x0.2.1,x1.2.1]) v1] 2):Xp)
abbrev Uo(h2:Heap)(x0:V3)(x1:V3) v0:=((h2.objs.size+2,listO [.int (mxL [0,x0.1,x1.1]) v0] 1):Xp)
theorem qA{R:Result->Shared->Prop}{h0 h2:Heap}{n0 t0 tk2:Nat}{cs ct:Addr}{q:Nat}{vq:Value}{le:Nat}{k0:Addr}{x0:V3}{u00 u01 u02 w0:Nat}{k1:Addr}{x1:V3}{u10 u11 u12 w1:Nat}(rm:Room 140 A)(hn:n0=h0.objs.size)(st:Stop true 120 A (YQ (W1 w) (W2 w) w.params n0 t0 cs ct))(hp2:Prog (PP w) h2)(Y2:Ext [] h0 h2) (H2:Has h2 ([(GA h0 w q vq),(yM h0 k0 k1 le),(h0.objs.size+3,XA),(YI h0),(k0,v3O x0 u00 u01 u02 w0),(k1,v3O x1 u10 u11 u12 w1)]++[])) (Hn:∀h' tk' r v0 v1 v2,Prog (PP w) h'->Ext [] h0 h'->h0.objs.size<=r->Has h' [(r,listO [.int (mxL [0,x0.1,x1.1]) v0,.int (mxL [0,x0.2.1,x1.2.1]) v1,.int (mxL [0,x0.2.2,x1.2.2]) v2] 3)]->R (.ok (.ret (.ref r))) ⟨h',g,dr,tk',os⟩):
  Goes true (model pw w) A (qOf R) (eOf R) (YQ (W1 w) (W2 w) w.params n0 t0 cs ct).res.K (YQ (W1 w) (W2 w) w.params n0 t0 cs ct).res.c ((YQ (W1 w) (W2 w) w.params n0 t0 cs ct).res.k (.ok .next)) ⟨h2,g,dr,tk2,os⟩:=by
 subst hn;refine Xh (k:=120) [0,2,3] [1,4,5] [h0.objs.size+7,h0.objs.size+3] (Zj ..).toSeg rfl Xn rm hp2 H2 rfl rfl (Xf (lm:=(Vf h0 w q vq)) [5] rfl rfl) st.dd st.kk ?_;intro h3 hp3 S3 X3 _ st3;have fr3:∀a∈[h0.objs.size+7,h0.objs.size+3],h0.objs.size<=a:=by
  exact aL (lar) (aL (lar) aN)
 have Y3:Ext [] h0 h3:=Y2.new X3 fr3;have hw:=(Zj (W1 w) (W2 w) w.params h0.objs.size t0 h2.objs.size tk2 cs ct q vq).wq;simp only [Prod.mk.injEq] at hw;have fr:∀a∈[h2.objs.size+4,h2.objs.size+3,h2.objs.size+2,h2.objs.size+1],h0.objs.size<=a:=by
  exact aL (Nat.le_trans Y2.size (lar)) (aL (Nat.le_trans Y2.size (lar)) (aL (Nat.le_trans Y2.size (lar)) (aL (Nat.le_trans Y2.size (lar)) aN)))
 refine Xi ?_;refine Yn (k:=100) [0,1,2,3,4,6,7,8] [5] [h2.objs.size+4,h2.objs.size+3,h2.objs.size+2,h2.objs.size+1] (Wr _ ..).1.sg rfl Xn st3.rm hp3 S3 rfl rfl (Xf (lm:=(Vv h2)) [5,6,7,8] rfl rfl) (Xg hw.1) trivial ?_;intro h4 hp4 S4 X4 _ st4;have Y4:Ext [] h0 h4:=Y3.new X4 fr;have S4':Has h4 ([(h3.objs.size+6,listO [.int 0 ((tk2+3)+1),.int x0.1 u00,.int x1.1 u10] 0),(Fr h2 tk2),(Ys h2),(JW h2),(J5 h2),(YZ h0),(yM h0 k0 k1 le),(k0,v3O x0 u00 u01 u02 w0),(k1,v3O x1 u10 u11 u12 w1),(YI h0)]++[]):=S4;refine Yf st4.rm hp4 (Ints.push (Ints.push Ints.one)) (S4'.left.pick [0] rfl) ?_;intro h5 tk5 v0 hp5 X5;have S5:Has h5 ([(Fr h2 tk2),(Ys h2),(JW h2),(J5 h2),(YZ h0),(yM h0 k0 k1 le),(k0,v3O x0 u00 u01 u02 w0),(k1,v3O x1 u10 u11 u12 w1),(YI h0)]++[]):=Has.ext (Has.re S4' [1,2,3,4,5,6,7,8,9] rfl) X5;have Y5:Ext [] h0 h5:=Y4.trans X5 YF;refine Xh (k:=100) [0,1,2,3,4,5,6,7] [8] [h2.objs.size+4,h2.objs.size+3,h2.objs.size+2,h2.objs.size+1] (M6 _ ..).1.sg rfl Xn st3.rm hp5 S5 rfl rfl (Xf (lm:=(Vk h2 tk2)) [5,6,7,8] rfl rfl) st4.dd st4.kk ?_;intro h6 hp6 S6 X6 _ st6;have Y6:Ext [] h0 h6:=Y5.new X6 fr;have S6':Has h6 ([(h5.objs.size+6,listO [.int 0 (tk5+1),.int x0.2.1 u01,.int x1.2.1 u11] 0),(qV h2 tk5),(Ys h2),(Uo h2 x0 x1 v0),(ZJ h2),(YZ h0),(yM h0 k0 k1 le),(k0,v3O x0 u00 u01 u02 w0),(k1,v3O x1 u10 u11 u12 w1),(YI h0)]++[]):=S6;refine Yf st6.rm hp6 (Ints.push (Ints.push Ints.one)) (S6'.left.pick [0] rfl) ?_;intro h7 tk7 v1 hp7 X7;have S7:Has h7 ([(qV h2 tk5),(Ys h2),(Uo h2 x0 x1 v0),(ZJ h2),(YZ h0),(yM h0 k0 k1 le),(k0,v3O x0 u00 u01 u02 w0),(k1,v3O x1 u10 u11 u12 w1),(YI h0)]++[]):=Has.ext (Has.re S6' [1,2,3,4,5,6,7,8,9] rfl) X7;have Y7:Ext [] h0 h7:=Y6.trans X7 YF;refine Xh (k:=100) [0,1,2,3,4,5,6,7] [8] [h2.objs.size+4,h2.objs.size+3,h2.objs.size+2,h2.objs.size+1] ((M6 _ ..).2 ..).1.sg rfl Xn st3.rm hp7 S7 rfl rfl (Xf (lm:=[(qV h2 tk5),(Ys h2),(Uo h2 x0 x1 v0),(ZJ h2)]) [5,6,7,8] rfl rfl) st6.dd st6.kk ?_;intro h8 hp8 S8 X8 _ st8;have Y8:Ext [] h0 h8:=Y7.new X8 fr;have S8':Has h8 ([(h7.objs.size+6,listO [.int 0 (tk7+1),.int x0.2.2 u02,.int x1.2.2 u12] 0),(qU h2 tk7),(Ys h2),(UA h2 x0 x1 v0 v1),(ZH h2),(YZ h0),(yM h0 k0 k1 le),(k0,v3O x0 u00 u01 u02 w0),(k1,v3O x1 u10 u11 u12 w1),(YI h0)]++[]):=S8;refine Yf st8.rm hp8 (Ints.push (Ints.push Ints.one)) (S8'.left.pick [0] rfl) ?_;intro h9 tk9 v2 hp9 X9;have S9:Has h9 ([(qU h2 tk7),(Ys h2),(UA h2 x0 x1 v0 v1),(ZH h2),(YZ h0),(yM h0 k0 k1 le),(k0,v3O x0 u00 u01 u02 w0),(k1,v3O x1 u10 u11 u12 w1),(YI h0)]++[]):=Has.ext (Has.re S8' [1,2,3,4,5,6,7,8,9] rfl) X9;have Y9:Ext [] h0 h9:=Y8.trans X9 YF;refine Xm (k:=120) [0,1,2,3,4,5,6,7] [8] [h2.objs.size+4,h2.objs.size+3,h2.objs.size+2,h2.objs.size+1] (((M6 _ ..).2 ..).2 ..).sg rfl Xn st3.rm hp9 S9 rfl rfl (Xf (lm:=[(qU h2 tk7),(Ys h2),(UA h2 x0 x1 v0 v1),(ZH h2)]) [2,3,4,5] rfl rfl) st8.dd st8.kk ?_;intro h10 hp10 S10 X10;have Y10:Ext [] h0 h10:=Y9.new X10 fr;refine XF (k:=140) [0,6] [1,2,3,4,5] [h2.objs.size+3,h0.objs.size+0] ((qT _ ..).1 ..).sg rfl Xn rm hp10 S10 rfl rfl XS st3.dd st3.kk ?_;intro hh hpp S X;refine Hn hh _ (h2.objs.size+2) v0 v1 v2 hpp (Y10.new X ?_) (Nat.le_trans Y2.size (lar)) ?_
 ·exact aL (Nat.le_trans Y2.size (lar)) (aL (lar) aN)
 ·exact (Has.re2 S [0] rfl).left
abbrev yN(h0:Heap) k0 k1 k2 le:=((h0.objs.size+6,listO [.ref k0,.ref k1,.ref k2] le):Xp)
abbrev UB(h2:Heap)(x0:V3)(x1:V3)(x2:V3) v0 v1:=((h2.objs.size+2,listO [.int (mxL [0,x0.1,x1.1,x2.1]) v0,.int (mxL [0,x0.2.1,x1.2.1,x2.2.1]) v1] 2):Xp)
abbrev Un(h2:Heap)(x0:V3)(x1:V3)(x2:V3) v0:=((h2.objs.size+2,listO [.int (mxL [0,x0.1,x1.1,x2.1]) v0] 1):Xp)
theorem BU{R:Result->Shared->Prop}{h0 h2:Heap}{n0 t0 tk2:Nat}{cs ct:Addr}{q:Nat}{vq:Value}{le:Nat}{k0:Addr}{x0:V3}{u00 u01 u02 w0:Nat}{k1:Addr}{x1:V3}{u10 u11 u12 w1:Nat}{k2:Addr}{x2:V3}{u20 u21 u22 w2:Nat}(rm:Room 140 A)(hn:n0=h0.objs.size)(st:Stop true 120 A (YQ (W1 w) (W2 w) w.params n0 t0 cs ct))(hp2:Prog (PP w) h2)(Y2:Ext [] h0 h2) (H2:Has h2 ([(GA h0 w q vq),(yN h0 k0 k1 k2 le),(h0.objs.size+3,XA),(YI h0),(k0,v3O x0 u00 u01 u02 w0),(k1,v3O x1 u10 u11 u12 w1),(k2,v3O x2 u20 u21 u22 w2)]++[])) (Hn:∀h' tk' r v0 v1 v2,Prog (PP w) h'->Ext [] h0 h'->h0.objs.size<=r->Has h' [(r,listO [.int (mxL [0,x0.1,x1.1,x2.1]) v0,.int (mxL [0,x0.2.1,x1.2.1,x2.2.1]) v1,.int (mxL [0,x0.2.2,x1.2.2,x2.2.2]) v2] 3)]->R (.ok (.ret (.ref r))) ⟨h',g,dr,tk',os⟩):
  Goes true (model pw w) A (qOf R) (eOf R) (YQ (W1 w) (W2 w) w.params n0 t0 cs ct).res.K (YQ (W1 w) (W2 w) w.params n0 t0 cs ct).res.c ((YQ (W1 w) (W2 w) w.params n0 t0 cs ct).res.k (.ok .next)) ⟨h2,g,dr,tk2,os⟩:=by
 subst hn;refine Xh (k:=120) [0,2,3] [1,4,5,6] [h0.objs.size+7,h0.objs.size+3] (Zj ..).toSeg rfl Xn rm hp2 H2 rfl rfl (Xf (lm:=(Vf h0 w q vq)) [5] rfl rfl) st.dd st.kk ?_;intro h3 hp3 S3 X3 _ st3;have fr3:∀a∈[h0.objs.size+7,h0.objs.size+3],h0.objs.size<=a:=by
  exact aL (lar) (aL (lar) aN)
 have Y3:Ext [] h0 h3:=Y2.new X3 fr3;have hw:=(Zj (W1 w) (W2 w) w.params h0.objs.size t0 h2.objs.size tk2 cs ct q vq).wq;simp only [Prod.mk.injEq] at hw;have fr:∀a∈[h2.objs.size+4,h2.objs.size+3,h2.objs.size+2,h2.objs.size+1],h0.objs.size<=a:=by
  exact aL (Nat.le_trans Y2.size (lar)) (aL (Nat.le_trans Y2.size (lar)) (aL (Nat.le_trans Y2.size (lar)) (aL (Nat.le_trans Y2.size (lar)) aN)))
 refine Xi ?_;refine Yn (k:=100) [0,1,2,3,4,6,7,8,9] [5] [h2.objs.size+4,h2.objs.size+3,h2.objs.size+2,h2.objs.size+1] (Wq _ ..).1.sg rfl Xn st3.rm hp3 S3 rfl rfl (Xf (lm:=(Vv h2)) [5,6,7,8,9] rfl rfl) (Xg hw.1) trivial ?_;intro h4 hp4 S4 X4 _ st4;have Y4:Ext [] h0 h4:=Y3.new X4 fr;have S4':Has h4 ([(h3.objs.size+6,listO [.int 0 ((tk2+3)+1),.int x0.1 u00,.int x1.1 u10,.int x2.1 u20] 0),(Fr h2 tk2),(Ys h2),(JW h2),(J5 h2),(YZ h0),(yN h0 k0 k1 k2 le),(k0,v3O x0 u00 u01 u02 w0),(k1,v3O x1 u10 u11 u12 w1),(k2,v3O x2 u20 u21 u22 w2),(YI h0)]++[]):=S4;refine Yf st4.rm hp4 (Ints.push (Ints.push (Ints.push Ints.one))) (S4'.left.pick [0] rfl) ?_;intro h5 tk5 v0 hp5 X5;have S5:Has h5 ([(Fr h2 tk2),(Ys h2),(JW h2),(J5 h2),(YZ h0),(yN h0 k0 k1 k2 le),(k0,v3O x0 u00 u01 u02 w0),(k1,v3O x1 u10 u11 u12 w1),(k2,v3O x2 u20 u21 u22 w2),(YI h0)]++[]):=Has.ext (Has.re S4' [1,2,3,4,5,6,7,8,9,10] rfl) X5;have Y5:Ext [] h0 h5:=Y4.trans X5 YF;refine Xh (k:=100) [0,1,2,3,4,5,6,7,8] [9] [h2.objs.size+4,h2.objs.size+3,h2.objs.size+2,h2.objs.size+1] (M5 _ ..).1.sg rfl Xn st3.rm hp5 S5 rfl rfl (Xf (lm:=(Vk h2 tk2)) [5,6,7,8,9] rfl rfl) st4.dd st4.kk ?_;intro h6 hp6 S6 X6 _ st6;have Y6:Ext [] h0 h6:=Y5.new X6 fr;have S6':Has h6 ([(h5.objs.size+6,listO [.int 0 (tk5+1),.int x0.2.1 u01,.int x1.2.1 u11,.int x2.2.1 u21] 0),(qV h2 tk5),(Ys h2),(Un h2 x0 x1 x2 v0),(ZJ h2),(YZ h0),(yN h0 k0 k1 k2 le),(k0,v3O x0 u00 u01 u02 w0),(k1,v3O x1 u10 u11 u12 w1),(k2,v3O x2 u20 u21 u22 w2),(YI h0)]++[]):=S6;refine Yf st6.rm hp6 (Ints.push (Ints.push (Ints.push Ints.one))) (S6'.left.pick [0] rfl) ?_;intro h7 tk7 v1 hp7 X7;have S7:Has h7 ([(qV h2 tk5),(Ys h2),(Un h2 x0 x1 x2 v0),(ZJ h2),(YZ h0),(yN h0 k0 k1 k2 le),(k0,v3O x0 u00 u01 u02 w0),(k1,v3O x1 u10 u11 u12 w1),(k2,v3O x2 u20 u21 u22 w2),(YI h0)]++[]):=Has.ext (Has.re S6' [1,2,3,4,5,6,7,8,9,10] rfl) X7;have Y7:Ext [] h0 h7:=Y6.trans X7 YF;refine Xh (k:=100) [0,1,2,3,4,5,6,7,8] [9] [h2.objs.size+4,h2.objs.size+3,h2.objs.size+2,h2.objs.size+1] ((M5 _ ..).2 ..).1.sg rfl Xn st3.rm hp7 S7 rfl rfl (Xf (lm:=[(qV h2 tk5),(Ys h2),(Un h2 x0 x1 x2 v0),(ZJ h2)]) [5,6,7,8,9] rfl rfl) st6.dd st6.kk ?_;intro h8 hp8 S8 X8 _ st8;have Y8:Ext [] h0 h8:=Y7.new X8 fr;have S8':Has h8 ([(h7.objs.size+6,listO [.int 0 (tk7+1),.int x0.2.2 u02,.int x1.2.2 u12,.int x2.2.2 u22] 0),(qU h2 tk7),(Ys h2),(UB h2 x0 x1 x2 v0 v1),(ZH h2),(YZ h0),(yN h0 k0 k1 k2 le),(k0,v3O x0 u00 u01 u02 w0),(k1,v3O x1 u10 u11 u12 w1),(k2,v3O x2 u20 u21 u22 w2),(YI h0)]++[]):=S8;refine Yf st8.rm hp8 (Ints.push (Ints.push (Ints.push Ints.one))) (S8'.left.pick [0] rfl) ?_;intro h9 tk9 v2 hp9 X9;have S9:Has h9 ([(qU h2 tk7),(Ys h2),(UB h2 x0 x1 x2 v0 v1),(ZH h2),(YZ h0),(yN h0 k0 k1 k2 le),(k0,v3O x0 u00 u01 u02 w0),(k1,v3O x1 u10 u11 u12 w1),(k2,v3O x2 u20 u21 u22 w2),(YI h0)]++[]):=Has.ext (Has.re S8' [1,2,3,4,5,6,7,8,9,10] rfl) X9;have Y9:Ext [] h0 h9:=Y8.trans X9 YF;refine Xm (k:=120) [0,1,2,3,4,5,6,7,8] [9] [h2.objs.size+4,h2.objs.size+3,h2.objs.size+2,h2.objs.size+1] (((M5 _ ..).2 ..).2 ..).sg rfl Xn st3.rm hp9 S9 rfl rfl (Xf (lm:=[(qU h2 tk7),(Ys h2),(UB h2 x0 x1 x2 v0 v1),(ZH h2)]) [2,3,4,5,6] rfl rfl) st8.dd st8.kk ?_;intro h10 hp10 S10 X10;have Y10:Ext [] h0 h10:=Y9.new X10 fr;refine XF (k:=140) [0,7] [1,2,3,4,5,6] [h2.objs.size+3,h0.objs.size+0] ((qT _ ..).1 ..).sg rfl Xn rm hp10 S10 rfl rfl XS st3.dd st3.kk ?_;intro hh hpp S X;refine Hn hh _ (h2.objs.size+2) v0 v1 v2 hpp (Y10.new X ?_) (Nat.le_trans Y2.size (lar)) ?_
 ·exact aL (Nat.le_trans Y2.size (lar)) (aL (lar) aN)
 ·exact (Has.re2 S [0] rfl).left
end

structure CKc where
 a:Addr
 x:V3
 t0:Nat
 t1:Nat
 t2:Nat
 e:Nat
noncomputable def CKc.cell(c:CKc):Addr×Obj:=(c.a,v3O c.x c.t0 c.t1 c.t2 c.e)
def CKc.val(c:CKc):Value:=.ref c.a
noncomputable def selV(xs:List V3)(c:Int):List V3:=if c>0 then [xs.getD (c - 1).toNat (0,0,0)] else []
noncomputable def ZP(xs0 xs1 xs2:List V3)(c:V3):List V3:=selV xs0 c.1++(selV xs1 c.2.1++selV xs2 c.2.2)
noncomputable def aroM(f:V3->Int)(xs0 xs1 xs2:List V3)(c:V3):Int:=mxL (0::(ZP xs0 xs1 xs2 c).map f)
theorem Yy{ks:List CKc}{c:Int}{k:CKc}(h:c>0)(hk:ks[(c - 1).toNat]? =some k):selV (ks.map CKc.x) c=[k.x]:=by
 unfold selV;rw [if_pos h];rw [List.getD_eq_getElem?_getD,List.getElem?_map,hk];rfl
theorem Yz{xs:List V3}{c:Int}(h: ¬c>0):selV xs c=[]:=by unfold selV;rw [if_neg h]
section
variable{w:World}{A:Around}{g:Array GenState}{dr:Drawn}{os:OsState}
abbrev Zi r0(ks0:List CKc) f0:=((r0,listO (ks0.map CKc.val) f0):Xp)
abbrev Zh r1(ks1:List CKc) f1:=((r1,listO (ks1.map CKc.val) f1):Xp)
abbrev Zg r2(ks2:List CKc) f2:=((r2,listO (ks2.map CKc.val) f2):Xp)
abbrev SN(h:Heap) ct cs r0 r1 r2 es c s0 s1 s2 ec(ks0:List CKc) f0(ks1:List CKc) f1(ks2:List CKc) f2:=([(h.objs.size+7,dctO [] 0),(h.objs.size+6,listO [] 0),(h.objs.size+5,rgO 0 3),(h.objs.size+3,XA),(h.objs.size+2,cellO (.ref ct)),(h.objs.size+1,cellO (.ref cs)),(YB h),(XL cs r0 r1 r2 es),(ct,v3O c s0 s1 s2 ec),(Zi r0 ks0 f0),(Zh r1 ks1 f1),(Zg r2 ks2 f2)]:ZQ)
abbrev Jh(h:Heap)(w:World) tk:=((h.objs.size+7,dctO [YS w.params (tk+3+1) (.int 2 (tk+3+8))] 1):Xp)
abbrev Gk(h:Heap):ZQ:=[(h.objs.size+7,dctO [] 0),(h.objs.size+6,listO [] 0),(h.objs.size+5,rgO 0 3)]
abbrev GD(h:Heap)(w:World) tk:=((h.objs.size+7,dctO [YS w.params (tk+3+1) (.int 2 (tk+3+6))] 1):Xp)
abbrev Lq(h:Heap)(w:World) tk:=([(GD h w tk),(h.objs.size+6,listO [] 0),(h.objs.size+3,XA),(YB h)]:ZQ)
abbrev Gi(h:Heap)(w:World) tk:=((h.objs.size+7,dctO [YS w.params (tk+3+1) (.int 2 (tk+3+10))] 1):Xp)
theorem GP{R:Result->Shared->Prop}{h:Heap}{tk:Nat}{cs ct r0 r1 r2:Addr}{es f0 f1 f2 s0 s1 s2 ec:Nat}{c:V3}{ks0 ks1 ks2:List CKc}{E:List (Addr×Obj)}(rm:Room 140 A)(hp:Prog (PP w) h) (hc0:c.1<=ks0.length)(hc1:c.2.1<=ks1.length)(hc2:c.2.2<=ks2.length)(hl0:ks0.length<100)(hl1:ks1.length<100)(hl2:ks2.length<100) (H:Has h ([(XL cs r0 r1 r2 es),(ct,v3O c s0 s1 s2 ec),(Zi r0 ks0 f0),(Zh r1 ks1 f1),(Zg r2 ks2 f2)]++(ks0.map CKc.cell++(ks1.map CKc.cell++(ks2.map CKc.cell++E))))) (Hn:∀h' tk' r v0 v1 v2,Prog (PP w) h'->Ext [] h h'->h.objs.size<=r->Has h' [(r,listO [.int (aroM (·.1) (ks0.map CKc.x) (ks1.map CKc.x) (ks2.map CKc.x) c) v0,.int (aroM (·.2.1) (ks0.map CKc.x) (ks1.map CKc.x) (ks2.map CKc.x) c) v1,.int (aroM (·.2.2) (ks0.map CKc.x) (ks1.map CKc.x) (ks2.map CKc.x) c) v2] 3)]->R (.ok (.ret (.ref r))) ⟨h',g,dr,tk',os⟩): codeAny (model pw w) A (.call (.ref 247) ⟨[.ref cs,.ref ct],[]⟩) R ⟨h,g,dr,tk,os⟩:=by
 refine XG (Nat.le_trans (lar) rm.d) (by rw [Yd];exact Nat.zero_le _) ?_;refine Xh (k:=120) [] [0,1,2,3,4] [] (VW ..).toSeg rfl Xn rm hp H rfl rfl XS (Nat.le_refl _) trivial ?_;intro h1 hp1 S1 X1 _ st1;have hw:=(VW (W1 w) (W2 w) w.params h.objs.size tk cs ct).wq;simp only [Prod.mk.injEq] at hw;have fr:∀a∈[h.objs.size+7,h.objs.size+6,h.objs.size+5],h.objs.size<=a:=by
  exact aL (lar) (aL (lar) (aL (lar) aN))
 refine Xi ?_
 by_cases p0:c.1>0
 ·by_cases p1:c.2.1>0
  ·by_cases p2:c.2.2>0
   ·obtain ⟨k0,hk0⟩:∃k,ks0[(c.1 - 1).toNat]? =some k:=⟨_,List.getElem?_eq_getElem (by omega)⟩;obtain ⟨k1,hk1⟩:∃k,ks1[(c.2.1 - 1).toNat]? =some k:=⟨_,List.getElem?_eq_getElem (by omega)⟩;obtain ⟨k2,hk2⟩:∃k,ks2[(c.2.2 - 1).toNat]? =some k:=⟨_,List.getElem?_eq_getElem (by omega)⟩;refine Xm (k:=120) (L:=(SN h ct cs r0 r1 r2 es c s0 s1 s2 ec ks0 f0 ks1 f1 ks2 f2)) [0,1,2,4,5,7,8,9,10,11] [3,6] [h.objs.size+7,h.objs.size+6,h.objs.size+5] ((JS ..).1 _ ..).sg rfl (ob (Xj (k:=c.2.2 - 1) (by omega) (by omega) (by rw [List.getElem?_map,hk2];rfl)) (ob XK (ob (XE (decide_eq_true p2)) (ob (Xj (k:=c.2.1 - 1) (by omega) (by omega) (by rw [List.getElem?_map,hk1];rfl)) (ob XK (ob (XE (decide_eq_true p1)) (ob (Xj (k:=c.1 - 1) (by omega) (by omega) (by rw [List.getElem?_map,hk0];rfl)) (ob XK (ob (XE (decide_eq_true p0)) Xn))))))))) st1.rm hp1 S1 rfl rfl (Xf (lm:=(Gk h)) [2,3,4,5,6,7,8] rfl rfl) (Xg hw.1) trivial ?_;intro h2 hp2 S2 X2;have hsel:ZP (ks0.map CKc.x) (ks1.map CKc.x) (ks2.map CKc.x) c=[k0.x,k1.x,k2.x]:=by
     unfold ZP;rw [Yy p0 hk0,Yy p1 hk1,Yy p2 hk2];rfl
    unfold aroM at Hn;rw [hsel] at Hn;refine BU (h0:=h) (q:=tk+3+1) (vq:=.int 2 (tk+3+10)) (le:=3) (k0:=k0.a) (x0:=k0.x) (u00:=k0.t0) (u01:=k0.t1) (u02:=k0.t2) (w0:=k0.e) (k1:=k1.a) (x1:=k1.x) (u10:=k1.t0) (u11:=k1.t1) (u12:=k1.t2) (w1:=k1.e) (k2:=k2.a) (x2:=k2.x) (u20:=k2.t0) (u21:=k2.t1) (u22:=k2.t2) (w2:=k2.e) rm rfl st1 hp2 (X1.new X2 fr) ?_ Hn;have S3:Has h2 ([(Gi h w tk),(h.objs.size+6,listO [.ref k0.a,.ref k1.a,.ref k2.a] 3),(h.objs.size+3,XA),(YB h)]++(ks0.map CKc.cell++(ks1.map CKc.cell++(ks2.map CKc.cell++E)))):=Has.re2 S2 [0,1,9,10] rfl;have hs:([(Gi h w tk),(h.objs.size+6,listO [.ref k0.a,.ref k1.a,.ref k2.a] 3),(h.objs.size+3,XA),(YB h)]++([k0.cell]++([k1.cell]++([k2.cell]++[])))).Sublist ([(Gi h w tk),(h.objs.size+6,listO [.ref k0.a,.ref k1.a,.ref k2.a] 3),(h.objs.size+3,XA),(YB h)]++(ks0.map CKc.cell++(ks1.map CKc.cell++(ks2.map CKc.cell++E)))):=(List.Sublist.append (List.Sublist.refl [(Gi h w tk),(h.objs.size+6,listO [.ref k0.a,.ref k1.a,.ref k2.a] 3),(h.objs.size+3,XA),(YB h)]) (List.Sublist.append (List.singleton_sublist.mpr (List.mem_map_of_mem (List.mem_of_getElem? hk0))) (List.Sublist.append (List.singleton_sublist.mpr (List.mem_map_of_mem (List.mem_of_getElem? hk1))) (List.Sublist.append (r₂:=E) (List.singleton_sublist.mpr (List.mem_map_of_mem (List.mem_of_getElem? hk2))) (List.nil_sublist _)))));exact S3.sub hs
   ·obtain ⟨k0,hk0⟩:∃k,ks0[(c.1 - 1).toNat]? =some k:=⟨_,List.getElem?_eq_getElem (by omega)⟩;obtain ⟨k1,hk1⟩:∃k,ks1[(c.2.1 - 1).toNat]? =some k:=⟨_,List.getElem?_eq_getElem (by omega)⟩;refine Xm (k:=120) (L:=(SN h ct cs r0 r1 r2 es c s0 s1 s2 ec ks0 f0 ks1 f1 ks2 f2)) [0,1,2,4,5,7,8,9,10,11] [3,6] [h.objs.size+7,h.objs.size+6,h.objs.size+5] (Na (W1 w) (W2 w) w.params h.objs.size tk h1.objs.size (tk+3) cs ct r0 r1 r2 es c.1 c.2.1 c.2.2 s0 s1 s2 ec (ks0.map CKc.val) (ks1.map CKc.val) (ks2.map CKc.val) f0 f1 f2 k0.a k1.a 0).sg rfl (ob (XE (decide_eq_false p2)) (ob (Xj (k:=c.2.1 - 1) (by omega) (by omega) (by rw [List.getElem?_map,hk1];rfl)) (ob XK (ob (XE (decide_eq_true p1)) (ob (Xj (k:=c.1 - 1) (by omega) (by omega) (by rw [List.getElem?_map,hk0];rfl)) (ob XK (ob (XE (decide_eq_true p0)) Xn))))))) st1.rm hp1 S1 rfl rfl (Xf (lm:=(Gk h)) [2,3,4,5,6,7,8] rfl rfl) (Xg hw.1) trivial ?_;intro h2 hp2 S2 X2;have hsel:ZP (ks0.map CKc.x) (ks1.map CKc.x) (ks2.map CKc.x) c=[k0.x,k1.x]:=by
     unfold ZP;rw [Yy p0 hk0,Yy p1 hk1,Yz p2];rfl
    unfold aroM at Hn;rw [hsel] at Hn;refine qA (h0:=h) (q:=tk+3+1) (vq:=.int 2 (tk+3+10)) (le:=2) (k0:=k0.a) (x0:=k0.x) (u00:=k0.t0) (u01:=k0.t1) (u02:=k0.t2) (w0:=k0.e) (k1:=k1.a) (x1:=k1.x) (u10:=k1.t0) (u11:=k1.t1) (u12:=k1.t2) (w1:=k1.e) rm rfl st1 hp2 (X1.new X2 fr) ?_ Hn;have S3:Has h2 ([(Gi h w tk),(h.objs.size+6,listO [.ref k0.a,.ref k1.a] 2),(h.objs.size+3,XA),(YB h)]++(ks0.map CKc.cell++(ks1.map CKc.cell++(ks2.map CKc.cell++E)))):=Has.re2 S2 [0,1,9,10] rfl;have hs:([(Gi h w tk),(h.objs.size+6,listO [.ref k0.a,.ref k1.a] 2),(h.objs.size+3,XA),(YB h)]++([k0.cell]++([k1.cell]++([]++[])))).Sublist ([(Gi h w tk),(h.objs.size+6,listO [.ref k0.a,.ref k1.a] 2),(h.objs.size+3,XA),(YB h)]++(ks0.map CKc.cell++(ks1.map CKc.cell++(ks2.map CKc.cell++E)))):=(List.Sublist.append (List.Sublist.refl [(Gi h w tk),(h.objs.size+6,listO [.ref k0.a,.ref k1.a] 2),(h.objs.size+3,XA),(YB h)]) (List.Sublist.append (List.singleton_sublist.mpr (List.mem_map_of_mem (List.mem_of_getElem? hk0))) (List.Sublist.append (List.singleton_sublist.mpr (List.mem_map_of_mem (List.mem_of_getElem? hk1))) (List.Sublist.append (r₂:=E) (List.nil_sublist _) (List.nil_sublist _)))));exact S3.sub hs
  ·by_cases p2:c.2.2>0
   ·obtain ⟨k0,hk0⟩:∃k,ks0[(c.1 - 1).toNat]? =some k:=⟨_,List.getElem?_eq_getElem (by omega)⟩;obtain ⟨k2,hk2⟩:∃k,ks2[(c.2.2 - 1).toNat]? =some k:=⟨_,List.getElem?_eq_getElem (by omega)⟩;refine Xm (k:=120) (L:=(SN h ct cs r0 r1 r2 es c s0 s1 s2 ec ks0 f0 ks1 f1 ks2 f2)) [0,1,2,4,5,7,8,9,10,11] [3,6] [h.objs.size+7,h.objs.size+6,h.objs.size+5] (Nb (W1 w) (W2 w) w.params h.objs.size tk h1.objs.size (tk+3) cs ct r0 r1 r2 es c.1 c.2.1 c.2.2 s0 s1 s2 ec (ks0.map CKc.val) (ks1.map CKc.val) (ks2.map CKc.val) f0 f1 f2 k0.a 0 k2.a).sg rfl (ob (Xj (k:=c.2.2 - 1) (by omega) (by omega) (by rw [List.getElem?_map,hk2];rfl)) (ob XK (ob (XE (decide_eq_true p2)) (ob (XE (decide_eq_false p1)) (ob (Xj (k:=c.1 - 1) (by omega) (by omega) (by rw [List.getElem?_map,hk0];rfl)) (ob XK (ob (XE (decide_eq_true p0)) Xn))))))) st1.rm hp1 S1 rfl rfl (Xf (lm:=(Gk h)) [2,3,4,5,6,7,8] rfl rfl) (Xg hw.1) trivial ?_;intro h2 hp2 S2 X2;have hsel:ZP (ks0.map CKc.x) (ks1.map CKc.x) (ks2.map CKc.x) c=[k0.x,k2.x]:=by
     unfold ZP;rw [Yy p0 hk0,Yz p1,Yy p2 hk2];rfl
    unfold aroM at Hn;rw [hsel] at Hn;refine qA (h0:=h) (q:=tk+3+1) (vq:=.int 2 (tk+3+8)) (le:=2) (k0:=k0.a) (x0:=k0.x) (u00:=k0.t0) (u01:=k0.t1) (u02:=k0.t2) (w0:=k0.e) (k1:=k2.a) (x1:=k2.x) (u10:=k2.t0) (u11:=k2.t1) (u12:=k2.t2) (w1:=k2.e) rm rfl st1 hp2 (X1.new X2 fr) ?_ Hn;have S3:Has h2 ([(Jh h w tk),(h.objs.size+6,listO [.ref k0.a,.ref k2.a] 2),(h.objs.size+3,XA),(YB h)]++(ks0.map CKc.cell++(ks1.map CKc.cell++(ks2.map CKc.cell++E)))):=Has.re2 S2 [0,1,9,10] rfl;have hs:([(Jh h w tk),(h.objs.size+6,listO [.ref k0.a,.ref k2.a] 2),(h.objs.size+3,XA),(YB h)]++([k0.cell]++([]++([k2.cell]++[])))).Sublist ([(Jh h w tk),(h.objs.size+6,listO [.ref k0.a,.ref k2.a] 2),(h.objs.size+3,XA),(YB h)]++(ks0.map CKc.cell++(ks1.map CKc.cell++(ks2.map CKc.cell++E)))):=(List.Sublist.append (List.Sublist.refl [(Jh h w tk),(h.objs.size+6,listO [.ref k0.a,.ref k2.a] 2),(h.objs.size+3,XA),(YB h)]) (List.Sublist.append (List.singleton_sublist.mpr (List.mem_map_of_mem (List.mem_of_getElem? hk0))) (List.Sublist.append (List.nil_sublist _) (List.Sublist.append (r₂:=E) (List.singleton_sublist.mpr (List.mem_map_of_mem (List.mem_of_getElem? hk2))) (List.nil_sublist _)))));exact S3.sub hs
   ·obtain ⟨k0,hk0⟩:∃k,ks0[(c.1 - 1).toNat]? =some k:=⟨_,List.getElem?_eq_getElem (by omega)⟩;refine Xm (k:=120) (L:=(SN h ct cs r0 r1 r2 es c s0 s1 s2 ec ks0 f0 ks1 f1 ks2 f2)) [0,1,2,4,5,7,8,9,10,11] [3,6] [h.objs.size+7,h.objs.size+6,h.objs.size+5] (Nc (W1 w) (W2 w) w.params h.objs.size tk h1.objs.size (tk+3) cs ct r0 r1 r2 es c.1 c.2.1 c.2.2 s0 s1 s2 ec (ks0.map CKc.val) (ks1.map CKc.val) (ks2.map CKc.val) f0 f1 f2 k0.a 0 0).sg rfl (ob (XE (decide_eq_false p2)) (ob (XE (decide_eq_false p1)) (ob (Xj (k:=c.1 - 1) (by omega) (by omega) (by rw [List.getElem?_map,hk0];rfl)) (ob XK (ob (XE (decide_eq_true p0)) Xn))))) st1.rm hp1 S1 rfl rfl (Xf (lm:=(Gk h)) [2,3,4,5,6,7,8] rfl rfl) (Xg hw.1) trivial ?_;intro h2 hp2 S2 X2;have hsel:ZP (ks0.map CKc.x) (ks1.map CKc.x) (ks2.map CKc.x) c=[k0.x]:=by
     unfold ZP;rw [Yy p0 hk0,Yz p1,Yz p2];rfl
    unfold aroM at Hn;rw [hsel] at Hn;refine qB (h0:=h) (q:=tk+3+1) (vq:=.int 2 (tk+3+8)) (le:=1) (k0:=k0.a) (x0:=k0.x) (u00:=k0.t0) (u01:=k0.t1) (u02:=k0.t2) (w0:=k0.e) rm rfl st1 hp2 (X1.new X2 fr) ?_ Hn;have S3:Has h2 ([(Jh h w tk),(h.objs.size+6,listO [.ref k0.a] 1),(h.objs.size+3,XA),(YB h)]++(ks0.map CKc.cell++(ks1.map CKc.cell++(ks2.map CKc.cell++E)))):=Has.re2 S2 [0,1,9,10] rfl;have hs:([(Jh h w tk),(h.objs.size+6,listO [.ref k0.a] 1),(h.objs.size+3,XA),(YB h)]++([k0.cell]++([]++([]++[])))).Sublist ([(Jh h w tk),(h.objs.size+6,listO [.ref k0.a] 1),(h.objs.size+3,XA),(YB h)]++(ks0.map CKc.cell++(ks1.map CKc.cell++(ks2.map CKc.cell++E)))):=(List.Sublist.append (List.Sublist.refl [(Jh h w tk),(h.objs.size+6,listO [.ref k0.a] 1),(h.objs.size+3,XA),(YB h)]) (List.Sublist.append (List.singleton_sublist.mpr (List.mem_map_of_mem (List.mem_of_getElem? hk0))) (List.Sublist.append (List.nil_sublist _) (List.Sublist.append (r₂:=E) (List.nil_sublist _) (List.nil_sublist _)))));exact S3.sub hs
 ·by_cases p1:c.2.1>0
  ·by_cases p2:c.2.2>0
   ·obtain ⟨k1,hk1⟩:∃k,ks1[(c.2.1 - 1).toNat]? =some k:=⟨_,List.getElem?_eq_getElem (by omega)⟩;obtain ⟨k2,hk2⟩:∃k,ks2[(c.2.2 - 1).toNat]? =some k:=⟨_,List.getElem?_eq_getElem (by omega)⟩;refine Xm (k:=120) (L:=(SN h ct cs r0 r1 r2 es c s0 s1 s2 ec ks0 f0 ks1 f1 ks2 f2)) [0,1,2,4,5,7,8,9,10,11] [3,6] [h.objs.size+7,h.objs.size+6,h.objs.size+5] (Nd (W1 w) (W2 w) w.params h.objs.size tk h1.objs.size (tk+3) cs ct r0 r1 r2 es c.1 c.2.1 c.2.2 s0 s1 s2 ec (ks0.map CKc.val) (ks1.map CKc.val) (ks2.map CKc.val) f0 f1 f2 0 k1.a k2.a).sg rfl (ob (Xj (k:=c.2.2 - 1) (by omega) (by omega) (by rw [List.getElem?_map,hk2];rfl)) (ob XK (ob (XE (decide_eq_true p2)) (ob (Xj (k:=c.2.1 - 1) (by omega) (by omega) (by rw [List.getElem?_map,hk1];rfl)) (ob XK (ob (XE (decide_eq_true p1)) (ob (XE (decide_eq_false p0)) Xn))))))) st1.rm hp1 S1 rfl rfl (Xf (lm:=(Gk h)) [2,3,4,5,6,7,8] rfl rfl) (Xg hw.1) trivial ?_;intro h2 hp2 S2 X2;have hsel:ZP (ks0.map CKc.x) (ks1.map CKc.x) (ks2.map CKc.x) c=[k1.x,k2.x]:=by
     unfold ZP;rw [Yz p0,Yy p1 hk1,Yy p2 hk2];rfl
    unfold aroM at Hn;rw [hsel] at Hn;refine qA (h0:=h) (q:=tk+3+1) (vq:=.int 2 (tk+3+8)) (le:=2) (k0:=k1.a) (x0:=k1.x) (u00:=k1.t0) (u01:=k1.t1) (u02:=k1.t2) (w0:=k1.e) (k1:=k2.a) (x1:=k2.x) (u10:=k2.t0) (u11:=k2.t1) (u12:=k2.t2) (w1:=k2.e) rm rfl st1 hp2 (X1.new X2 fr) ?_ Hn;have S3:Has h2 ([(Jh h w tk),(h.objs.size+6,listO [.ref k1.a,.ref k2.a] 2),(h.objs.size+3,XA),(YB h)]++(ks0.map CKc.cell++(ks1.map CKc.cell++(ks2.map CKc.cell++E)))):=Has.re2 S2 [0,1,9,10] rfl;have hs:([(Jh h w tk),(h.objs.size+6,listO [.ref k1.a,.ref k2.a] 2),(h.objs.size+3,XA),(YB h)]++([]++([k1.cell]++([k2.cell]++[])))).Sublist ([(Jh h w tk),(h.objs.size+6,listO [.ref k1.a,.ref k2.a] 2),(h.objs.size+3,XA),(YB h)]++(ks0.map CKc.cell++(ks1.map CKc.cell++(ks2.map CKc.cell++E)))):=(List.Sublist.append (List.Sublist.refl [(Jh h w tk),(h.objs.size+6,listO [.ref k1.a,.ref k2.a] 2),(h.objs.size+3,XA),(YB h)]) (List.Sublist.append (List.nil_sublist _) (List.Sublist.append (List.singleton_sublist.mpr (List.mem_map_of_mem (List.mem_of_getElem? hk1))) (List.Sublist.append (r₂:=E) (List.singleton_sublist.mpr (List.mem_map_of_mem (List.mem_of_getElem? hk2))) (List.nil_sublist _)))));exact S3.sub hs
   ·obtain ⟨k1,hk1⟩:∃k,ks1[(c.2.1 - 1).toNat]? =some k:=⟨_,List.getElem?_eq_getElem (by omega)⟩;refine Xm (k:=120) (L:=(SN h ct cs r0 r1 r2 es c s0 s1 s2 ec ks0 f0 ks1 f1 ks2 f2)) [0,1,2,4,5,7,8,9,10,11] [3,6] [h.objs.size+7,h.objs.size+6,h.objs.size+5] (Nf (W1 w) (W2 w) w.params h.objs.size tk h1.objs.size (tk+3) cs ct r0 r1 r2 es c.1 c.2.1 c.2.2 s0 s1 s2 ec (ks0.map CKc.val) (ks1.map CKc.val) (ks2.map CKc.val) f0 f1 f2 0 k1.a 0).sg rfl (ob (XE (decide_eq_false p2)) (ob (Xj (k:=c.2.1 - 1) (by omega) (by omega) (by rw [List.getElem?_map,hk1];rfl)) (ob XK (ob (XE (decide_eq_true p1)) (ob (XE (decide_eq_false p0)) Xn))))) st1.rm hp1 S1 rfl rfl (Xf (lm:=(Gk h)) [2,3,4,5,6,7,8] rfl rfl) (Xg hw.1) trivial ?_;intro h2 hp2 S2 X2;have hsel:ZP (ks0.map CKc.x) (ks1.map CKc.x) (ks2.map CKc.x) c=[k1.x]:=by
     unfold ZP;rw [Yz p0,Yy p1 hk1,Yz p2];rfl
    unfold aroM at Hn;rw [hsel] at Hn;refine qB (h0:=h) (q:=tk+3+1) (vq:=.int 2 (tk+3+8)) (le:=1) (k0:=k1.a) (x0:=k1.x) (u00:=k1.t0) (u01:=k1.t1) (u02:=k1.t2) (w0:=k1.e) rm rfl st1 hp2 (X1.new X2 fr) ?_ Hn;have S3:Has h2 ([(Jh h w tk),(h.objs.size+6,listO [.ref k1.a] 1),(h.objs.size+3,XA),(YB h)]++(ks0.map CKc.cell++(ks1.map CKc.cell++(ks2.map CKc.cell++E)))):=Has.re2 S2 [0,1,9,10] rfl;have hs:([(Jh h w tk),(h.objs.size+6,listO [.ref k1.a] 1),(h.objs.size+3,XA),(YB h)]++([]++([k1.cell]++([]++[])))).Sublist ([(Jh h w tk),(h.objs.size+6,listO [.ref k1.a] 1),(h.objs.size+3,XA),(YB h)]++(ks0.map CKc.cell++(ks1.map CKc.cell++(ks2.map CKc.cell++E)))):=(List.Sublist.append (List.Sublist.refl [(Jh h w tk),(h.objs.size+6,listO [.ref k1.a] 1),(h.objs.size+3,XA),(YB h)]) (List.Sublist.append (List.nil_sublist _) (List.Sublist.append (List.singleton_sublist.mpr (List.mem_map_of_mem (List.mem_of_getElem? hk1))) (List.Sublist.append (r₂:=E) (List.nil_sublist _) (List.nil_sublist _)))));exact S3.sub hs
  ·by_cases p2:c.2.2>0
   ·obtain ⟨k2,hk2⟩:∃k,ks2[(c.2.2 - 1).toNat]? =some k:=⟨_,List.getElem?_eq_getElem (by omega)⟩;refine Xm (k:=120) (L:=(SN h ct cs r0 r1 r2 es c s0 s1 s2 ec ks0 f0 ks1 f1 ks2 f2)) [0,1,2,4,5,7,8,9,10,11] [3,6] [h.objs.size+7,h.objs.size+6,h.objs.size+5] (Ng (W1 w) (W2 w) w.params h.objs.size tk h1.objs.size (tk+3) cs ct r0 r1 r2 es c.1 c.2.1 c.2.2 s0 s1 s2 ec (ks0.map CKc.val) (ks1.map CKc.val) (ks2.map CKc.val) f0 f1 f2 0 0 k2.a).sg rfl (ob (Xj (k:=c.2.2 - 1) (by omega) (by omega) (by rw [List.getElem?_map,hk2];rfl)) (ob XK (ob (XE (decide_eq_true p2)) (ob (XE (decide_eq_false p1)) (ob (XE (decide_eq_false p0)) Xn))))) st1.rm hp1 S1 rfl rfl (Xf (lm:=(Gk h)) [2,3,4,5,6,7,8] rfl rfl) (Xg hw.1) trivial ?_;intro h2 hp2 S2 X2;have hsel:ZP (ks0.map CKc.x) (ks1.map CKc.x) (ks2.map CKc.x) c=[k2.x]:=by
     unfold ZP;rw [Yz p0,Yz p1,Yy p2 hk2];rfl
    unfold aroM at Hn;rw [hsel] at Hn;refine qB (h0:=h) (q:=tk+3+1) (vq:=.int 2 (tk+3+6)) (le:=1) (k0:=k2.a) (x0:=k2.x) (u00:=k2.t0) (u01:=k2.t1) (u02:=k2.t2) (w0:=k2.e) rm rfl st1 hp2 (X1.new X2 fr) ?_ Hn;have S3:Has h2 ([(GD h w tk),(h.objs.size+6,listO [.ref k2.a] 1),(h.objs.size+3,XA),(YB h)]++(ks0.map CKc.cell++(ks1.map CKc.cell++(ks2.map CKc.cell++E)))):=Has.re2 S2 [0,1,9,10] rfl;have hs:([(GD h w tk),(h.objs.size+6,listO [.ref k2.a] 1),(h.objs.size+3,XA),(YB h)]++([]++([]++([k2.cell]++[])))).Sublist ([(GD h w tk),(h.objs.size+6,listO [.ref k2.a] 1),(h.objs.size+3,XA),(YB h)]++(ks0.map CKc.cell++(ks1.map CKc.cell++(ks2.map CKc.cell++E)))):=(List.Sublist.append (List.Sublist.refl [(GD h w tk),(h.objs.size+6,listO [.ref k2.a] 1),(h.objs.size+3,XA),(YB h)]) (List.Sublist.append (List.nil_sublist _) (List.Sublist.append (List.nil_sublist _) (List.Sublist.append (r₂:=E) (List.singleton_sublist.mpr (List.mem_map_of_mem (List.mem_of_getElem? hk2))) (List.nil_sublist _)))));exact S3.sub hs
   ·refine Xm (k:=120) (L:=(SN h ct cs r0 r1 r2 es c s0 s1 s2 ec ks0 f0 ks1 f1 ks2 f2)) [0,1,2,4,5,7,8,9,10,11] [3,6] [h.objs.size+7,h.objs.size+6,h.objs.size+5] (Nh (W1 w) (W2 w) w.params h.objs.size tk h1.objs.size (tk+3) cs ct r0 r1 r2 es c.1 c.2.1 c.2.2 s0 s1 s2 ec (ks0.map CKc.val) (ks1.map CKc.val) (ks2.map CKc.val) f0 f1 f2 0 0 0).sg rfl (ob (XE (decide_eq_false p2)) (ob (XE (decide_eq_false p1)) (ob (XE (decide_eq_false p0)) Xn))) st1.rm hp1 S1 rfl rfl (Xf (lm:=(Gk h)) [2,3,4,5,6,7,8] rfl rfl) (Xg hw.1) trivial ?_;intro h2 hp2 S2 X2;have hsel:ZP (ks0.map CKc.x) (ks1.map CKc.x) (ks2.map CKc.x) c=[]:=by
     unfold ZP;rw [Yz p0,Yz p1,Yz p2];rfl
    unfold aroM at Hn;rw [hsel] at Hn;refine BV (h0:=h) (q:=tk+3+1) (vq:=.int 2 (tk+3+6)) (le:=0) rm rfl st1 hp2 (X1.new X2 fr) ?_ Hn;have S3:Has h2 ((Lq h w tk)++(ks0.map CKc.cell++(ks1.map CKc.cell++(ks2.map CKc.cell++E)))):=Has.re2 S2 [0,1,9,10] rfl;have hs:((Lq h w tk)++([]++([]++([]++[])))).Sublist ((Lq h w tk)++(ks0.map CKc.cell++(ks1.map CKc.cell++(ks2.map CKc.cell++E)))):=(List.Sublist.append (List.Sublist.refl (Lq h w tk)) (List.Sublist.append (List.nil_sublist _) (List.Sublist.append (List.nil_sublist _) (List.Sublist.append (r₂:=E) (List.nil_sublist _) (List.nil_sublist _)))));exact S3.sub hs
end

section
variable{w:World}{A:Around}{k:Nat}{Q:Fin->Shared->Prop}{Er:Value->Shared->Prop}{h:Heap}{g:Array GenState}{dr:Drawn}{os:OsState}{tk:Nat}
 {f:Nat}{O:List Nat}{R:List Pr}{c:Code}{t:Sem Fin}{K:List Fm}{d:Nat}{o:Out}{cd:Code}{m i:Nat}{obs:List Ob}{ix:List Nat}{L E l l1 cs rest ro:List (Addr×Obj)}
theorem XP(jx kx:List Nat)(as:List Addr)(sg:Seg o .again cd m i obs ix (cs++ro))(ho:o=ev ⟨pw,PP w,h.objs.size,tk,true⟩ f O R c t K d l 0 0 [] [])(hobs:∀b∈obs,b.Holds (PP w) (model pw w))(hq:cd.quiet=true)
  (rm:Room k A)(hp:Prog (PP w) h)(H:Has h (L++E))(hl:l=l1++ro)(h1:l1=jx.filterMap (L[·]?))(hrest:rest=kx.filterMap (L[·]?))(hro:∀p∈ro,p∈E)(HL:Has h (L++ro))(has:∀p∈l1,p.1∈as\/p∈cs) (hdep:(ar true A K c).depth<=A.depth+d)(hK:KOk true A K) (Hn:∀h',Prog (PP w) h'->Has h' (cs++(rest++E))->Ext as h h'->codeAny (model pw w) A cd (asR Q Er) ⟨h',g,dr,tk+i,os⟩)(hjk:(jx++kx).Nodup:=by decide)(hix:ix.Nodup:=by decide):
  Goes true (model pw w) A Q Er K c t ⟨h,g,dr,tk,os⟩:=by
 have Hl:Has h l:=by
  rw [hl];exact (H.left.pick jx h1 (List.nodup_append.mp hjk).1).join HL.right fun p hp q hq=>HL.apart2 (ZW h1 p hp) hq
 refine Zp rm hp Hl hdep hK ho sg hobs hq ?_;intro h' D';obtain ⟨S1,S2⟩:=D'.step2 (ro:=ro) sg.pick hix hl H h1 hrest hjk hro has;exact Hn h' D'.toProg S1 S2
end
def cntD(ds:List D3)(p:Int):Nat:=(ds.filter fun d=>d.1==p).length
theorem QL{d:D3}{ds:List D3}{p:Int}:cntD (d::ds) p=cond (d.1==p) 1 0+cntD ds p:=by
 unfold cntD;rw [List.filter_cons];cases d.1==p with
 | true=>simp only [if_true,List.length_cons,cond_true];lia
 | false=>simp
noncomputable def takStep(st:List Int×List Int)(d:D3):List Int×List Int:=
 (if st.2.getD d.1.toNat 0<=st.1.getD d.1.toNat 0/\d.2.2>st.1.getD d.2.1.toNat 0 then st.1.set d.2.1.toNat d.2.2 else st.1,st.2.set d.1.toNat (st.2.getD d.1.toNat 0 - 1))
noncomputable def takF(deeds:List D3)(c:V3):List Int:=(deeds.reverse.foldl takStep ([c.1,c.2.1,c.2.2],[(cntD deeds 0:Int),(cntD deeds 1:Int),(cntD deeds 2:Int)])).1
theorem ZR{st:List Int×List Int}{d:D3}:(takStep st d).1.length=st.1.length/\(takStep st d).2.length=st.2.length:=by
 unfold takStep;dsimp only;constructor
 ·split
  ·rw [List.length_set]
  ·rfl
 ·rw [List.length_set]
theorem Zm(b1 b2:Bool)(P:Params)(n0 t0 n1 t1:Nat)(dl ct:Addr)(c0 c1 c2:Int)(tc0 tc1 tc2 ec:Nat)(ds:List Value)(de:Nat):
  (weightF (takG b1 b2 P n0 t0 n1 t1 dl ct c0 c1 c2 tc0 tc1 tc2 ec ds de),quietF (takG b1 b2 P n0 t0 n1 t1 dl ct c0 c1 c2 tc0 tc1 tc2 ec ds de))=(0,true):=by cases b1<;>cases b2<;>kernel_rfl
section
variable{w:World}{A:Around}{g:Array GenState}{dr:Drawn}{os:OsState}{n0 t0 n1 t1:Nat}{dl ct:Addr}{c:V3}{tc0 tc1 tc2 ec:Nat}{de:Nat}{dcs:List DC}{pp:Int}{tp:Nat}{E:List (Addr×Obj)}
abbrev XT dl(dcs:List DC) de:=((dl,listO (dcs.map DC.val) de):Xp)
abbrev Gz n1 dl k vs ve n0 pp tp dcs de:=([(n1+0,itO dl k),(n1+2,dctO [] 0),(n1+1,listO vs ve),(ZL n0 pp tp),(XT dl dcs de)]:ZQ)
abbrev Df n1(w:World) tk(d:DC):=((n1+2,dctO [kn5 w.params (tk+0) (.int d.i d.ti),kn6 w.params (tk+1) (.int d.j d.tj),kn7 w.params (tk+2) (.int d.m d.tm)] 3):Xp)
theorem G6{R:Result->Shared->Prop}{h:Heap}{tk k ve:Nat}{vs:List Value}{d:DC}(rm:Room 0 A)(hp:Prog (PP w) h)(hd:d∈dcs)(hk:(dcs.map DC.val)[k]? =some d.val)(hz:vs.length<=100) (H:Has h ((Gz n1 dl k vs ve n0 pp tp dcs de)++(dcs.map DC.cell++E))) (Hn:∀h' tk' vs' ve' q0' q1' q2' vi' vj' vm',Prog (PP w) h'->Ext [n1+0,n1+2,n1+1] h h'->List.length vs'=vs.length+cond (d.i==pp) 1 0->Has h' ([(n1+0,itO dl ((k:Int)+1)),(n1+2,dctO [kn5 w.params q0' vi',kn6 w.params q1' vj',kn7 w.params q2' vm'] 3),(n1+1,listO vs' ve'),(ZL n0 pp tp),(XT dl dcs de)]++(dcs.map DC.cell++E))->codeAny (model pw w) A (takG (W1 w) (W2 w) w.params n0 t0 n1 t1 dl ct c.1 c.2.1 c.2.2 tc0 tc1 tc2 ec (dcs.map DC.val) de) R ⟨h',g,dr,tk',os⟩): codeAny (model pw w) A (takG (W1 w) (W2 w) w.params n0 t0 n1 t1 dl ct c.1 c.2.1 c.2.2 tc0 tc1 tc2 ec (dcs.map DC.val) de) R ⟨h,g,dr,tk,os⟩:=by
 have hw:=Zm (W1 w) (W2 w) w.params n0 t0 n1 t1 dl ct c.1 c.2.1 c.2.2 tc0 tc1 tc2 ec (dcs.map DC.val) de;simp only [Prod.mk.injEq] at hw;refine Xi ?_
 by_cases hc:d.i=pp
 ·refine XP (L:=(Gz n1 dl k vs ve n0 pp tp dcs de)) (l1:=(Gz n1 dl k vs ve n0 pp tp dcs de)) (ro:=[d.cell]) (cs:=[(n1+0,itO dl ((k:Int)+1)),(Df n1 w tk d),(n1+1,listO (vs++[.int d.i d.ti]) (ve+1)),(ZL n0 pp tp),(XT dl dcs de)]) [0,1,2,3,4] [] [n1+0,n1+2,n1+1] ((QK _ ..).2.1.1 _ ..).sg rfl (ob (XI (by have:sizeLine=16777216:=rfl;omega)) (ob (yY (beq_iff_eq.mpr hc)) (ob (Ya (k:=k) hk) Xn))) (by rw [Xk];exact hw.2) rm hp H rfl rfl rfl
   (fun p hq=>by rw [List.mem_singleton.mp hq];exact List.mem_append_left _ (List.mem_map_of_mem hd)) (H.with1 (List.mem_append_left _ (List.mem_map_of_mem hd))) (Xf (lm:=[(n1+0,itO dl k),(n1+2,dctO [] 0),(n1+1,listO vs ve)]) [3,4] rfl rfl) (Xg hw.1) trivial ?_
  intro h1 hp1 S1 X1;rw [Xt];exact Hn h1 _ (vs++[.int d.i d.ti]) (ve+1) (tk+0) (tk+1) (tk+2) (.int d.i d.ti) (.int d.j d.tj) (.int d.m d.tm) hp1 X1 (by rw [beq_iff_eq.mpr hc,List.length_append];rfl) S1
 ·refine XP (L:=(Gz n1 dl k vs ve n0 pp tp dcs de)) (l1:=(Gz n1 dl k vs ve n0 pp tp dcs de)) (ro:=[d.cell]) (cs:=[(n1+0,itO dl ((k:Int)+1)),(Df n1 w tk d),(n1+1,listO vs ve),(ZL n0 pp tp),(XT dl dcs de)]) [0,1,2,3,4] [] [n1+0,n1+2,n1+1] ((QK _ ..).2.1.2.1 _ ..).sg rfl (ob (yY (beq_eq_false_iff_ne.mpr hc)) (ob (Ya (k:=k) hk) Xn)) (by rw [Xk];exact hw.2) rm hp H rfl rfl rfl
   (fun p hq=>by rw [List.mem_singleton.mp hq];exact List.mem_append_left _ (List.mem_map_of_mem hd)) (H.with1 (List.mem_append_left _ (List.mem_map_of_mem hd))) (Xf (lm:=[(n1+0,itO dl k),(n1+2,dctO [] 0),(n1+1,listO vs ve)]) [3,4] rfl rfl) (Xg hw.1) trivial ?_
  intro h1 hp1 S1 X1;rw [Xt];exact Hn h1 _ vs ve (tk+0) (tk+1) (tk+2) (.int d.i d.ti) (.int d.j d.tj) (.int d.m d.tm) hp1 X1 (by rw [beq_eq_false_iff_ne.mpr hc];rfl) S1
abbrev Um n1 dl k(w:World) q0 vi q1 vj q2 vm vs ve n0 pp tp dcs de:=([(n1+0,itO dl k),(n1+2,dctO [kn5 w.params q0 vi,kn6 w.params q1 vj,kn7 w.params q2 vm] 3),(n1+1,listO vs ve),(ZL n0 pp tp),(XT dl dcs de)]:ZQ)
abbrev SW n1(w:World) q0(d:DC) q1 q2:=((n1+2,dctO [kn5 w.params q0 (.int d.i d.ti),kn6 w.params q1 (.int d.j d.tj),kn7 w.params q2 (.int d.m d.tm)] 3):Xp)
theorem G5{R:Result->Shared->Prop}{h:Heap}{tk k ve:Nat}{vs:List Value}{d:DC}{q0 q1 q2:Nat}{vi vj vm:Value}(rm:Room 0 A)(hp:Prog (PP w) h)(hd:d∈dcs)(hk:(dcs.map DC.val)[k]? =some d.val)(hz:vs.length<=100) (H:Has h ((Um n1 dl k w q0 vi q1 vj q2 vm vs ve n0 pp tp dcs de)++(dcs.map DC.cell++E))) (Hn:∀h' tk' vs' ve' q0' q1' q2' vi' vj' vm',Prog (PP w) h'->Ext [n1+0,n1+2,n1+1] h h'->List.length vs'=vs.length+cond (d.i==pp) 1 0->Has h' ([(n1+0,itO dl ((k:Int)+1)),(n1+2,dctO [kn5 w.params q0' vi',kn6 w.params q1' vj',kn7 w.params q2' vm'] 3),(n1+1,listO vs' ve'),(ZL n0 pp tp),(XT dl dcs de)]++(dcs.map DC.cell++E))->codeAny (model pw w) A (takG (W1 w) (W2 w) w.params n0 t0 n1 t1 dl ct c.1 c.2.1 c.2.2 tc0 tc1 tc2 ec (dcs.map DC.val) de) R ⟨h',g,dr,tk',os⟩): codeAny (model pw w) A (takG (W1 w) (W2 w) w.params n0 t0 n1 t1 dl ct c.1 c.2.1 c.2.2 tc0 tc1 tc2 ec (dcs.map DC.val) de) R ⟨h,g,dr,tk,os⟩:=by
 have hw:=Zm (W1 w) (W2 w) w.params n0 t0 n1 t1 dl ct c.1 c.2.1 c.2.2 tc0 tc1 tc2 ec (dcs.map DC.val) de;simp only [Prod.mk.injEq] at hw;refine Xi ?_
 by_cases hc:d.i=pp
 ·refine XP (L:=(Um n1 dl k w q0 vi q1 vj q2 vm vs ve n0 pp tp dcs de)) (l1:=(Um n1 dl k w q0 vi q1 vj q2 vm vs ve n0 pp tp dcs de)) (ro:=[d.cell]) (cs:=[(n1+0,itO dl ((k:Int)+1)),(SW n1 w q0 d q1 q2),(n1+1,listO (vs++[.int d.i d.ti]) (ve+1)),(ZL n0 pp tp),(XT dl dcs de)]) [0,1,2,3,4] [] [n1+0,n1+2,n1+1] ((QK _ ..).2.1.2.2.1 _ ..).sg rfl (ob (XI (by have:sizeLine=16777216:=rfl;omega)) (ob (yY (beq_iff_eq.mpr hc)) (ob (Ya (k:=k) hk) Xn))) (by rw [Xk];exact hw.2) rm hp H rfl rfl rfl
   (fun p hq=>by rw [List.mem_singleton.mp hq];exact List.mem_append_left _ (List.mem_map_of_mem hd)) (H.with1 (List.mem_append_left _ (List.mem_map_of_mem hd))) (Xf (lm:=[(n1+0,itO dl k),(n1+2,dctO [kn5 w.params q0 vi,kn6 w.params q1 vj,kn7 w.params q2 vm] 3),(n1+1,listO vs ve)]) [3,4] rfl rfl) (Xg hw.1) trivial ?_
  intro h1 hp1 S1 X1;rw [Xt];exact Hn h1 _ (vs++[.int d.i d.ti]) (ve+1) q0 q1 q2 (.int d.i d.ti) (.int d.j d.tj) (.int d.m d.tm) hp1 X1 (by rw [beq_iff_eq.mpr hc,List.length_append];rfl) S1
 ·refine XP (L:=(Um n1 dl k w q0 vi q1 vj q2 vm vs ve n0 pp tp dcs de)) (l1:=(Um n1 dl k w q0 vi q1 vj q2 vm vs ve n0 pp tp dcs de)) (ro:=[d.cell]) (cs:=[(n1+0,itO dl ((k:Int)+1)),(SW n1 w q0 d q1 q2),(n1+1,listO vs ve),(ZL n0 pp tp),(XT dl dcs de)]) [0,1,2,3,4] [] [n1+0,n1+2,n1+1] ((QK _ ..).2.1.2.2.2 _ ..).sg rfl (ob (yY (beq_eq_false_iff_ne.mpr hc)) (ob (Ya (k:=k) hk) Xn)) (by rw [Xk];exact hw.2) rm hp H rfl rfl rfl
   (fun p hq=>by rw [List.mem_singleton.mp hq];exact List.mem_append_left _ (List.mem_map_of_mem hd)) (H.with1 (List.mem_append_left _ (List.mem_map_of_mem hd))) (Xf (lm:=[(n1+0,itO dl k),(n1+2,dctO [kn5 w.params q0 vi,kn6 w.params q1 vj,kn7 w.params q2 vm] 3),(n1+1,listO vs ve)]) [3,4] rfl rfl) (Xg hw.1) trivial ?_
  intro h1 hp1 S1 X1;rw [Xt];exact Hn h1 _ vs ve q0 q1 q2 (.int d.i d.ti) (.int d.j d.tj) (.int d.m d.tm) hp1 X1 (by rw [beq_eq_false_iff_ne.mpr hc];rfl) S1
theorem y7{R:Result->Shared->Prop}(rm:Room 0 A)(hl:dcs.length=4\/dcs.length=5):
  ∀(todo done:List DC) {h:Heap} {tk ve:Nat} {vs:List Value} {q0 q1 q2:Nat} {vi vj vm:Value},dcs=done++todo->Prog (PP w) h->vs.length<=done.length->Has h ([(n1+0,itO dl done.length),(n1+2,dctO [kn5 w.params q0 vi,kn6 w.params q1 vj,kn7 w.params q2 vm] 3),(n1+1,listO vs ve),(n0+7,cellO (.int pp tp)),(dl,listO (dcs.map DC.val) de)]++(dcs.map DC.cell++E))->
   (∀h' tk' vs' ve' q0' q1' q2' vi' vj' vm',Prog (PP w) h'->Ext [n1+0,n1+2,n1+1] h h'->List.length vs'=vs.length+cntD (todo.map DC.d) pp->Has h' ([(n1+2,dctO [kn5 w.params q0' vi',kn6 w.params q1' vj',kn7 w.params q2' vm'] 3),(n1+1,listO vs' ve'),(n0+7,cellO (.int pp tp)),(dl,listO (dcs.map DC.val) de)]++(dcs.map DC.cell++E))->R (.ok .next) ⟨h',g,dr,tk',os⟩)->codeAny (model pw w) A (takG (W1 w) (W2 w) w.params n0 t0 n1 t1 dl ct c.1 c.2.1 c.2.2 tc0 tc1 tc2 ec (dcs.map DC.val) de) R ⟨h,g,dr,tk,os⟩
 | [],done,h,tk,ve,vs,q0,q1,q2,vi,vj,vm=>by
  intro hdc hp hv H Hn;have hlk:done.length=dcs.length:=by rw [hdc,List.append_nil]
  have hlen:(dcs.map DC.val).length=dcs.length:=List.length_map ..;refine Xi ?_;rcases hl with hl | hl
  ·obtain ⟨a0,a1,a2,a3,hds⟩:=Mz (hlen.trans hl);have hw:=Zm (W1 w) (W2 w) w.params n0 t0 n1 t1 dl ct c.1 c.2.1 c.2.2 tc0 tc1 tc2 ec (dcs.map DC.val) de;simp only [Prod.mk.injEq] at hw;rw [hlk,hl] at H;rw [hds] at H hw ⊢;refine Xm (k:=0) [0,4] [1,2,3] [n1+0] ((yA ..).2.1 _ ..).sg rfl Xn rm hp H rfl rfl (Xf (lm:=[(n1+0,itO dl 4)]) [1] rfl rfl) (Xg hw.1) trivial ?_;intro h1 hp1 S1 X1;refine Hn h1 _ vs ve q0 q1 q2 vi vj vm hp1 (X1.to fun a ha=>by rw [List.mem_singleton.mp ha];exact .head _) rfl ?_;rw [hds];exact Has.re2 S1 [2,3,4,1] rfl
  ·obtain ⟨a0,a1,a2,a3,a4,hds⟩:=Bi (hlen.trans hl);have hw:=Zm (W1 w) (W2 w) w.params n0 t0 n1 t1 dl ct c.1 c.2.1 c.2.2 tc0 tc1 tc2 ec (dcs.map DC.val) de;simp only [Prod.mk.injEq] at hw;rw [hlk,hl] at H;rw [hds] at H hw ⊢;refine Xm (k:=0) [0,4] [1,2,3] [n1+0] ((yA ..).2.2.1 _ ..).sg rfl Xn rm hp H rfl rfl (Xf (lm:=[(n1+0,itO dl 5)]) [1] rfl rfl) (Xg hw.1) trivial ?_;intro h1 hp1 S1 X1;refine Hn h1 _ vs ve q0 q1 q2 vi vj vm hp1 (X1.to fun a ha=>by rw [List.mem_singleton.mp ha];exact .head _) rfl ?_;rw [hds];exact Has.re2 S1 [2,3,4,1] rfl
 | d::todo,done,h,tk,ve,vs,q0,q1,q2,vi,vj,vm=>by
  intro hdc hp hv H Hn;have hm:d∈dcs:=by rw [hdc];exact List.mem_append_right _ (.head _)
  have hkk:(dcs.map DC.val)[done.length]? =some d.val:=by rw [hdc,List.map_append,List.getElem?_append_right (by simp)];simp
  have hb:done.length<=5:=by
   have:=congrArg List.length hdc;rw [List.length_append] at this;omega
  refine G5 rm hp hm hkk (by omega) H ?_;intro h1 tk1 vs1 ve1 q0' q1' q2' vi' vj' vm' hp1 X1 hv1 S1;have hv2:vs1.length<=(done++[d]).length:=by
   rw [hv1,List.length_append,List.length_singleton];cases d.i==pp<;>simp only [cond_true,cond_false]<;>lia
  refine y7 rm hl todo (done++[d]) (by rw [hdc,List.append_assoc];rfl) hp1 hv2 (by rw [List.length_append,List.length_singleton];exact S1) ?_;intro h2 tk2 vs2 ve2 q0'' q1'' q2'' vi'' vj'' vm'' hp2 X2 hv3 S2;refine Hn h2 tk2 vs2 ve2 q0'' q1'' q2'' vi'' vj'' vm'' hp2 (X1.trans X2 fun a ha=>.inl ha) ?_ S2;rw [hv3,hv1,List.map_cons,QL];show _=vs.length+(cond (d.i==pp) 1 0+_);lia
theorem Jv{R:Result->Shared->Prop}{h:Heap}{tk:Nat}(rm:Room 0 A)(hl:dcs.length=4\/dcs.length=5)(hp:Prog (PP w) h)(H:Has h ([(n1+0,itO dl 0),(n1+2,dctO [] 0),(n1+1,listO [] 0),(ZL n0 pp tp),(XT dl dcs de)]++(dcs.map DC.cell++E))) (Hn:∀h' tk' vs' ve' q0' q1' q2' vi' vj' vm',Prog (PP w) h'->Ext [n1+0,n1+2,n1+1] h h'->List.length vs'=cntD (dcs.map DC.d) pp->Has h' ([(n1+2,dctO [kn5 w.params q0' vi',kn6 w.params q1' vj',kn7 w.params q2' vm'] 3),(n1+1,listO vs' ve'),(ZL n0 pp tp),(XT dl dcs de)]++(dcs.map DC.cell++E))->R (.ok .next) ⟨h',g,dr,tk',os⟩): codeAny (model pw w) A (V1 (W1 w) (W2 w) w.params n0 t0 n1 t1 dl ct c.1 c.2.1 c.2.2 tc0 tc1 tc2 ec (dcs.map DC.val) de).res.callee R ⟨h,g,dr,tk,os⟩:=by
 have hw0:=(NB (W1 w) (W2 w) w.params n0 t0 n1 t1 dl ct c.1 c.2.1 c.2.2 tc0 tc1 tc2 ec (dcs.map DC.val) de).wq;have hw:=Zm (W1 w) (W2 w) w.params n0 t0 n1 t1 dl ct c.1 c.2.1 c.2.2 tc0 tc1 tc2 ec (dcs.map DC.val) de;simp only [Prod.mk.injEq] at hw hw0;have hne:∃d rest,dcs=d::rest:=by
  cases dcs with
  | nil=>rcases hl with x | x<;>cases x
  | cons d rest=>exact ⟨d,rest,rfl⟩
 obtain ⟨d,rest,hdc⟩:=hne;have hm:d∈dcs:=by rw [hdc];exact .head _
 have hkk:(dcs.map DC.val)[0]? =some d.val:=by rw [hdc];rfl
 refine Xi ?_;refine Xy [0] [1,2,3,4] [] ((QK _ ..).1 ..).sg rfl Xn (by rw [Xk];exact hw.2) rm hp H rfl rfl (Xf (lm:=[]) [0] rfl rfl) (Xg hw0.1) trivial ?_;intro h1 hp1 S1 X1;rw [Xt];refine G6 (k:=0) rm hp1 hm hkk (by decide) S1 ?_;intro h2 tk2 vs2 ve2 q0 q1 q2 vi vj vm hp2 X2 hv2 S2;refine y7 rm hl rest [d] hdc hp2 ?_ S2 ?_
 ·rw [hv2];cases d.i==pp<;>simp
 intro h3 tk3 vs3 ve3 q0' q1' q2' vi' vj' vm' hp3 X3 hv3 S3;refine Hn h3 tk3 vs3 ve3 q0' q1' q2' vi' vj' vm' hp3 ((X1.to (fun a ha=>(nomatch ha))).trans (X2.trans X3 fun a ha=>.inl ha) fun a ha=>.inl ha) ?_ S3;rw [hv3,hv2,hdc,List.map_cons,QL];show _=cond (d.i==pp) 1 0+_;simp
end

theorem Has.swap{h:Heap}{X M D E:List (Addr×Obj)}(H:Has h (X++(M++(D++E)))):Has h (X++(D++(M++E))):=
 H.perm (List.Perm.append_left X ((List.append_assoc M D E▸List.append_assoc D M E▸(List.perm_append_comm.append_right E):(M++(D++E)).Perm (D++(M++E)))))
section
variable{w:World}{A:Around}{g:Array GenState}{dr:Drawn}{os:OsState}
theorem MV{ds:List D3}{p:Int}:cntD ds p<=ds.length:=List.length_filter_le _ _
abbrev Fq(h:Heap)(w:World) tk ct:=((h.objs.size+0,frameO [kn2 w.params (tk+0) (.ref ct),yZ w.params (tk+1) (.ref (h.objs.size+2))] 2):Xp)
abbrev ZC(h:Heap)(c:V3) tc0 tc1 tc2:=((h.objs.size+2,listO [.int c.1 tc0,.int c.2.1 tc1,.int c.2.2 tc2] 1):Xp)
abbrev BF(h:Heap)(dcs:List DC) tk3 tk5:=((h.objs.size+5,listO [.int (cntD (dcs.map DC.d) 0:Nat) (tk3+0+1),.int (cntD (dcs.map DC.d) 1:Nat) (tk5+0+1)] 2):Xp)
abbrev ZB(h:Heap) dl:=((h.objs.size+1,cellO (.ref dl)):Xp)
abbrev BB(h:Heap)(dcs:List DC) tk3:=((h.objs.size+5,listO [.int (cntD (dcs.map DC.d) 0:Nat) (tk3+0+1)] 1):Xp)
abbrev Gv(h:Heap) tk1:=((h.objs.size+7,cellO (.int 0 (tk1+0))):Xp)
abbrev Gu(h:Heap) tk3:=((h.objs.size+7,cellO (.int 1 (tk3+2))):Xp)
abbrev QF(h:Heap) tk5:=((h.objs.size+7,cellO (.int 2 (tk5+2))):Xp)
abbrev yJ(h5:Heap):Xp:=(h5.objs.size+1,listO [] 0)
abbrev yI(h5:Heap):Xp:=(h5.objs.size+2,dctO [] 0)
abbrev QB(h:Heap):Xp:=(h.objs.size+4,rgO 1 2)
abbrev QA(h:Heap):Xp:=(h.objs.size+4,rgO 2 1)
abbrev Qz(h:Heap):Xp:=(h.objs.size+4,rgO 3 0)
abbrev SV(h1:Heap) dl(h:Heap) tk1 dcs de:=([(h1.objs.size+0,itO dl 0),(h1.objs.size+2,dctO [] 0),(h1.objs.size+1,listO [] 0),(Gv h tk1),(XT dl dcs de)]:ZQ)
abbrev SU(h3:Heap) dl(h:Heap) tk3 dcs de:=([(h3.objs.size+0,itO dl 0),(h3.objs.size+2,dctO [] 0),(h3.objs.size+1,listO [] 0),(Gu h tk3),(XT dl dcs de)]:ZQ)
theorem G1{R:Result->Shared->Prop}{h h1:Heap}{tk tk1:Nat}{dl ct:Addr}{c:V3}{tc0 tc1 tc2 ec de:Nat}{dcs:List DC}{E:List (Addr×Obj)}(rm:Room 40 A)(hl:dcs.length=4\/dcs.length=5)(hp1:Prog (PP w) h1)(Y1:Ext [] h h1)
  (S1:Has h1 ([(h.objs.size+7,XA),(YY h),(J4 h),(h.objs.size+4,rgO 0 3),(ZC h c tc0 tc1 tc2),(ZB h dl),(Fq h w tk ct),(ct,v3O c tc0 tc1 tc2 ec),(XT dl dcs de)]++(dcs.map DC.cell++E))) (Hn:∀h' tk' u0 u1 u2,Prog (PP w) h'->Ext [] h h'->Has h' ([(YY h),(h.objs.size+5,listO [.int (cntD (dcs.map DC.d) 0:Nat) u0,.int (cntD (dcs.map DC.d) 1:Nat) u1,.int (cntD (dcs.map DC.d) 2:Nat) u2] 3),(ZB h dl),(XT dl dcs de),(ZC h c tc0 tc1 tc2),(Fq h w tk ct),(ct,v3O c tc0 tc1 tc2 ec)]++(dcs.map DC.cell++E))->R (.ok .next) ⟨h',g,dr,tk',os⟩): codeAny (model pw w) A (Td (W1 w) (W2 w) w.params h.objs.size tk dl ct c.1 c.2.1 c.2.2 tc0 tc1 tc2 ec).res.callee R ⟨h1,g,dr,tk1,os⟩:=by
 have hw:=(NC (W1 w) (W2 w) w.params h.objs.size tk dl ct c.1 c.2.1 c.2.2 tc0 tc1 tc2 ec).wq;simp only [Prod.mk.injEq] at hw;have fr:∀{h':Heap},Ext [] h h'->∀a∈[h'.objs.size+0,h'.objs.size+2,h'.objs.size+1],h.objs.size<=a:=by
  intro h' X;exact aL (Nat.le_trans X.size (lar)) (aL (Nat.le_trans X.size (lar)) (aL (Nat.le_trans X.size (lar)) aN))
 have fr4:∀a∈[h.objs.size+7,h.objs.size+6,h.objs.size+5,h.objs.size+4],h.objs.size<=a:=by
  exact aL (lar) (aL (lar) (aL (lar) (aL (lar) aN)))
 have fr6:∀{h':Heap},Ext [] h h'->∀a∈[h'.objs.size+2,h'.objs.size+1,h.objs.size+7,h.objs.size+6,h.objs.size+5,h.objs.size+4],h.objs.size<=a:=by
  intro h' X;exact aL (Nat.le_trans X.size (lar)) (aL (Nat.le_trans X.size (lar)) (aL (lar) (aL (lar) (aL (lar) (aL (lar) aN)))))
 refine Xi ?_;refine Xh (k:=20) [0,1,2,3,5,8] [4,6,7] [h.objs.size+7,h.objs.size+6,h.objs.size+5,h.objs.size+4] (NB ..).toSeg rfl Xn rm hp1 S1 rfl rfl (Xf (lm:=[(h.objs.size+7,XA),(YY h),(J4 h),(h.objs.size+4,rgO 0 3)]) [7,8] rfl rfl) (Xg hw.1) trivial ?_;intro h2 hp2 S2 X2 _ st2;have Y2:Ext [] h h2:=Y1.new X2 fr4;have T2:Has h2 ((SV h1 dl h tk1 dcs de)++(dcs.map DC.cell++([(YY h),(J4 h),(QB h),(ZB h dl),(ZC h c tc0 tc1 tc2),(Fq h w tk ct),(ct,v3O c tc0 tc1 tc2 ec)]++E))):=Has.swap (X:=(SV h1 dl h tk1 dcs de)) (M:=[(YY h),(J4 h),(QB h),(ZB h dl),(ZC h c tc0 tc1 tc2),(Fq h w tk ct),(ct,v3O c tc0 tc1 tc2 ec)]) (Has.re (l:=[(h1.objs.size+2,dctO [] 0),(h1.objs.size+1,listO [] 0),(h1.objs.size+0,itO dl 0),(Gv h tk1),(YY h),(J4 h),(QB h),(ZB h dl),(XT dl dcs de),(ZC h c tc0 tc1 tc2),(Fq h w tk ct),(ct,v3O c tc0 tc1 tc2 ec)]) (l':=[(h1.objs.size+0,itO dl 0),(h1.objs.size+2,dctO [] 0),(h1.objs.size+1,listO [] 0),(Gv h tk1),(XT dl dcs de),(YY h),(J4 h),(QB h),(ZB h dl),(ZC h c tc0 tc1 tc2),(Fq h w tk ct),(ct,v3O c tc0 tc1 tc2 ec)]) S2 [2,0,1,3,8,4,5,6,7,9,10,11] rfl);skip;refine Jv (t0:=tk) (t1:=tk1) (st2.rm.le (Nat.zero_le _)) hl hp2 T2 ?_;intro h3 tk3 vs0 ve0 p00 p01 p02 w00 w01 w02 hp3 X3 hv0 S3;have Y3:Ext [] h h3:=Y2.new X3 (fr Y1);have T3:Has h3 ([(h1.objs.size+2,dctO [kn5 w.params p00 w00,kn6 w.params p01 w01,kn7 w.params p02 w02] 3),(h1.objs.size+1,listO vs0 ve0),(Gv h tk1),(XT dl dcs de),(YY h),(J4 h),(QB h),(ZB h dl),(ZC h c tc0 tc1 tc2),(Fq h w tk ct),(ct,v3O c tc0 tc1 tc2 ec)]++(dcs.map DC.cell++E)):=Has.swap S3;refine Xh (k:=20) [0,1,2,4,5,6,7,3] [8,9,10] [h1.objs.size+2,h1.objs.size+1,h.objs.size+7,h.objs.size+6,h.objs.size+5,h.objs.size+4] (UM _ ..).1.sg rfl (ob (XV hv0 (by have:=MV (ds:=dcs.map DC.d) (p:=0);rw [List.length_map] at this;omega)) Xn) rm hp3 T3 rfl rfl (Xf (lm:=[(h1.objs.size+2,dctO [kn5 w.params p00 w00,kn6 w.params p01 w01,kn7 w.params p02 w02] 3),(h1.objs.size+1,listO vs0 ve0),(Gv h tk1),(YY h),(J4 h),(QB h)]) [7,8] rfl rfl) st2.dd st2.kk ?_;intro h4 hp4 S4 X4 _ st4;have Y4:Ext [] h h4:=Y3.new X4 (fr6 Y1);have T4:Has h4 ((SU h3 dl h tk3 dcs de)++(dcs.map DC.cell++([(YY h),(BB h dcs tk3),(QA h),(ZB h dl),(ZC h c tc0 tc1 tc2),(Fq h w tk ct),(ct,v3O c tc0 tc1 tc2 ec)]++E))):=Has.swap (X:=(SU h3 dl h tk3 dcs de)) (M:=[(YY h),(BB h dcs tk3),(QA h),(ZB h dl),(ZC h c tc0 tc1 tc2),(Fq h w tk ct),(ct,v3O c tc0 tc1 tc2 ec)]) (Has.re (l:=[(h3.objs.size+2,dctO [] 0),(h3.objs.size+1,listO [] 0),(h3.objs.size+0,itO dl 0),(Gu h tk3),(YY h),(BB h dcs tk3),(QA h),(ZB h dl),(XT dl dcs de),(ZC h c tc0 tc1 tc2),(Fq h w tk ct),(ct,v3O c tc0 tc1 tc2 ec)]) (l':=[(h3.objs.size+0,itO dl 0),(h3.objs.size+2,dctO [] 0),(h3.objs.size+1,listO [] 0),(Gu h tk3),(XT dl dcs de),(YY h),(BB h dcs tk3),(QA h),(ZB h dl),(ZC h c tc0 tc1 tc2),(Fq h w tk ct),(ct,v3O c tc0 tc1 tc2 ec)]) S4 [2,0,1,3,8,4,5,6,7,9,10,11] rfl);refine Jv (t0:=tk) (t1:=tk3) (st4.rm.le (Nat.zero_le _)) hl hp4 T4 ?_;intro h5 tk5 vs1 ve1 p10 p11 p12 w10 w11 w12 hp5 X5 hv1 S5;have Y5:Ext [] h h5:=Y4.new X5 (fr Y3);have T5:Has h5 ([(h3.objs.size+2,dctO [kn5 w.params p10 w10,kn6 w.params p11 w11,kn7 w.params p12 w12] 3),(h3.objs.size+1,listO vs1 ve1),(Gu h tk3),(XT dl dcs de),(YY h),(BB h dcs tk3),(QA h),(ZB h dl),(ZC h c tc0 tc1 tc2),(Fq h w tk ct),(ct,v3O c tc0 tc1 tc2 ec)]++(dcs.map DC.cell++E)):=Has.swap S5;refine Xh (k:=20) [0,1,2,4,5,6,7,3] [8,9,10] [h3.objs.size+2,h3.objs.size+1,h.objs.size+7,h.objs.size+6,h.objs.size+5,h.objs.size+4] ((UM _ ..).2 ..).1.sg rfl (ob (XV hv1 (by have:=MV (ds:=dcs.map DC.d) (p:=1);rw [List.length_map] at this;omega)) Xn) rm hp5 T5 rfl rfl (Xf (lm:=[(h3.objs.size+2,dctO [kn5 w.params p10 w10,kn6 w.params p11 w11,kn7 w.params p12 w12] 3),(h3.objs.size+1,listO vs1 ve1),(Gu h tk3),(YY h),(BB h dcs tk3),(QA h)]) [7,8] rfl rfl) st4.dd st4.kk ?_;intro h6 hp6 S6 X6 _ st6;have Y6:Ext [] h h6:=Y5.new X6 (fr6 Y3);have T6:Has h6 ([(h5.objs.size+0,itO dl 0),(yI h5),(yJ h5),(QF h tk5),(XT dl dcs de)]++(dcs.map DC.cell++([(YY h),(BF h dcs tk3 tk5),(Qz h),(ZB h dl),(ZC h c tc0 tc1 tc2),(Fq h w tk ct),(ct,v3O c tc0 tc1 tc2 ec)]++E))):=Has.swap (X:=[(h5.objs.size+0,itO dl 0),(yI h5),(yJ h5),(QF h tk5),(XT dl dcs de)]) (M:=[(YY h),(BF h dcs tk3 tk5),(Qz h),(ZB h dl),(ZC h c tc0 tc1 tc2),(Fq h w tk ct),(ct,v3O c tc0 tc1 tc2 ec)]) (Has.re (l:=[(yI h5),(yJ h5),(h5.objs.size+0,itO dl 0),(QF h tk5),(YY h),(BF h dcs tk3 tk5),(Qz h),(ZB h dl),(XT dl dcs de),(ZC h c tc0 tc1 tc2),(Fq h w tk ct),(ct,v3O c tc0 tc1 tc2 ec)]) (l':=[(h5.objs.size+0,itO dl 0),(yI h5),(yJ h5),(QF h tk5),(XT dl dcs de),(YY h),(BF h dcs tk3 tk5),(Qz h),(ZB h dl),(ZC h c tc0 tc1 tc2),(Fq h w tk ct),(ct,v3O c tc0 tc1 tc2 ec)]) S6 [2,0,1,3,8,4,5,6,7,9,10,11] rfl);refine Jv (t0:=tk) (t1:=tk5) (st6.rm.le (Nat.zero_le _)) hl hp6 T6 ?_;intro h7 tk7 vs2 ve2 p20 p21 p22 w20 w21 w22 hp7 X7 hv2 S7;have Y7:Ext [] h h7:=Y6.new X7 (fr Y5);have T7:Has h7 ([(h5.objs.size+2,dctO [kn5 w.params p20 w20,kn6 w.params p21 w21,kn7 w.params p22 w22] 3),(h5.objs.size+1,listO vs2 ve2),(QF h tk5),(XT dl dcs de),(YY h),(BF h dcs tk3 tk5),(Qz h),(ZB h dl),(ZC h c tc0 tc1 tc2),(Fq h w tk ct),(ct,v3O c tc0 tc1 tc2 ec)]++(dcs.map DC.cell++E)):=Has.swap S7;refine Xm (k:=40) [0,1,2,4,5,6,7,3] [8,9,10] [h5.objs.size+2,h5.objs.size+1,h.objs.size+7,h.objs.size+6,h.objs.size+5,h.objs.size+4] (((UM _ ..).2 ..).2 ..).sg rfl (ob (XV hv2 (by have:=MV (ds:=dcs.map DC.d) (p:=2);rw [List.length_map] at this;omega)) Xn) rm hp7 T7 rfl rfl (Xf (lm:=[(h5.objs.size+2,dctO [kn5 w.params p20 w20,kn6 w.params p21 w21,kn7 w.params p22 w22] 3),(h5.objs.size+1,listO vs2 ve2),(QF h tk5),(YY h),(BF h dcs tk3 tk5),(Qz h)]) [2,3] rfl rfl) st6.dd st6.kk ?_;intro h8 hp8 S8 X8;exact Hn h8 _ _ _ _ hp8 (Y7.new X8 (fr6 Y5)) S8
end

noncomputable abbrev fT(P:Params)(n0:Addr)(t0:Nat)(ct:Addr)(q0:Nat)(more:List DictEntry)(e:Nat):Obj:=
 frameO (kn2 P (t0+0) (.ref ct)::yZ P (t0+1) (.ref (n0+2))::Qo P q0 (.ref (n0+5))::more) e
noncomputable abbrev fT3(P:Params)(q1 q2 q3:Nat)(vi vj vm:Value):List DictEntry:=[kn5 P q1 vi,kn6 P q2 vj,kn7 P q3 vm]
theorem Jr(b1 b2:Bool)(P:Params)(n0 t0 n1 t1:Nat)(dl ct:Addr)(c0 c1 c2:Int)(tc0 tc1 tc2 ec:Nat):
  (weightF (Ym b1 b2 P n0 t0 n1 t1 dl ct c0 c1 c2 tc0 tc1 tc2 ec),quietF (Ym b1 b2 P n0 t0 n1 t1 dl ct c0 c1 c2 tc0 tc1 tc2 ec))=(0,true):=(FB b1 b2 P n0 t0 n1 t1 dl ct c0 c1 c2 tc0 tc1 tc2 ec 0 0 0 0 0).wq
section
variable{w:World}{A:Around}{g:Array GenState}{dr:Drawn}{os:OsState}{n0 t0 n1 t1:Nat}{dl ct:Addr}{c:V3}{tc0 tc1 tc2 ec:Nat}{rds:List DC}{E:List (Addr×Obj)}{q0:Nat}
abbrev Jp n1(rds:List DC):=((n1+1,listO (rds.map DC.val) 0):Xp)
abbrev MT n1 k n0(w:World) t0 ct q0 ts te cs ce(rds:List DC):=([(n1+2,itO (n1+1) k),(n0+0,fT w.params n0 t0 ct q0 [] 3),(n0+2,listO ts te),(n0+5,listO cs ce),(Jp n1 rds)]:ZQ)
abbrev BA n0(cs:List Value)(d:DC)(counts:List Int) tk ce:=((n0+5,listO (cs.set d.i.toNat (.int (counts.getD d.i.toNat 0 - 1) (tk+4))) ce):Xp)
abbrev UC n0(w:World) t0 ct q0 tk(d:DC):=((n0+0,fT w.params n0 t0 ct q0 (fT3 w.params (tk+0) (tk+1) (tk+2) (.int d.i d.ti) (.int d.j d.tj) (.int d.m d.tm)) 6):Xp)
abbrev Ux n1 k n0(w:World) t0 ct q0 ts te cs ce:=([(n1+2,itO (n1+1) k),(n0+0,fT w.params n0 t0 ct q0 [] 3),(n0+2,listO ts te),(n0+5,listO cs ce)]:ZQ)
theorem yp{R:Result->Shared->Prop}{h:Heap}{tk k te ce:Nat}{ts cs:List Value}{taken counts:List Int}{d:DC}(rm:Room 0 A)(hp:Prog (PP w) h)(hd:d∈rds)(hok:d.Ok)(hk:(rds.map DC.val)[k]? =some d.val)
  (It:Ints ts taken)(Ic:Ints cs counts)(hlt:taken.length=3)(hlc:counts.length=3)(H:Has h ((MT n1 k n0 w t0 ct q0 ts te cs ce rds)++(rds.map DC.cell++E))) (Hn:∀h' tk' ts' cs' q1' q2' q3' vi' vj' vm',Prog (PP w) h'->Ext [n1+2,n0+0,n0+2,n0+5] h h'->Ints ts' (takStep (taken,counts) d.d).1->Ints cs' (takStep (taken,counts) d.d).2-> Has h' ([(n1+2,itO (n1+1) ((k:Int)+1)),(n0+0,fT w.params n0 t0 ct q0 (fT3 w.params q1' q2' q3' vi' vj' vm') 6),(n0+2,listO ts' te),(n0+5,listO cs' ce),(Jp n1 rds)]++(rds.map DC.cell++E))->codeAny (model pw w) A (Ym (W1 w) (W2 w) w.params n0 t0 n1 t1 dl ct c.1 c.2.1 c.2.2 tc0 tc1 tc2 ec) R ⟨h',g,dr,tk',os⟩): codeAny (model pw w) A (Ym (W1 w) (W2 w) w.params n0 t0 n1 t1 dl ct c.1 c.2.1 c.2.2 tc0 tc1 tc2 ec) R ⟨h,g,dr,tk,os⟩:=by
 have hw:=Jr (W1 w) (W2 w) w.params n0 t0 n1 t1 dl ct c.1 c.2.1 c.2.2 tc0 tc1 tc2 ec;simp only [Prod.mk.injEq] at hw;have hi0:=hok.i0;have hi3:=hok.i3;have hj0:=hok.j0;have hj3:=hok.j3;obtain ⟨u1,hu1⟩:=Ic.get (i:=d.i.toNat) (by omega);obtain ⟨u2,hu2⟩:=It.get (i:=d.i.toNat) (by omega);obtain ⟨u3,hu3⟩:=It.get (i:=d.j.toNat) (by omega);refine Xi ?_
 by_cases p1:counts.getD d.i.toNat 0<=taken.getD d.i.toNat 0
 ·by_cases p2:d.m>taken.getD d.j.toNat 0
  ·refine XP (L:=(MT n1 k n0 w t0 ct q0 ts te cs ce rds)) (l1:=(MT n1 k n0 w t0 ct q0 ts te cs ce rds)) (ro:=[d.cell]) (cs:=[(n1+2,itO (n1+1) ((k:Int)+1)),(UC n0 w t0 ct q0 tk d),(n0+2,listO (ts.set d.j.toNat (.int d.m d.tm)) te),(BA n0 cs d counts tk ce),(Jp n1 rds)]) [0,1,2,3,4] [] [n1+2,n0+0,n0+2,n0+5] ((qQ _ ..).1 _ ..).sg rfl (ob (X0 hok.i0 (by omega) (by rw [Ic.len];omega)) (ob XK (ob (Xj hok.i0 (by omega) hu1) (ob (X0 hok.j0 (by omega) (by rw [It.len];omega)) (ob (XE (decide_eq_true p2)) (ob (Xj hok.j0 (by omega) hu3) (ob (ZK (decide_eq_true p1)) (ob (Xj hok.i0 (by omega) hu2) (ob (Xj hok.i0 (by omega) hu1) (ob (Ya (k:=k) hk) Xn)))))))))) (by rw [Xk];exact hw.2) rm hp H rfl rfl rfl
    (fun p hq=>by rw [List.mem_singleton.mp hq];exact List.mem_append_left _ (List.mem_map_of_mem hd)) (H.with1 (List.mem_append_left _ (List.mem_map_of_mem hd))) (Xf (lm:=(Ux n1 k n0 w t0 ct q0 ts te cs ce)) [4] rfl rfl) (Xg hw.1) trivial ?_
   intro h1 hp1 S1 X1;rw [Xt];have e1:(takStep (taken,counts) d.d).1=taken.set d.j.toNat d.m:=by
    unfold takStep;dsimp only;rw [if_pos ⟨p1,p2⟩];try rfl
   refine Hn h1 _ (ts.set d.j.toNat (.int d.m d.tm)) (cs.set d.i.toNat (.int (counts.getD d.i.toNat 0 - 1) (tk+4))) (tk+0) (tk+1) (tk+2) (.int d.i d.ti) (.int d.j d.tj) (.int d.m d.tm) hp1 X1 (by rw [e1];exact It.set _ _ _) (Ic.set _ _ _) S1
  ·refine XP (L:=(MT n1 k n0 w t0 ct q0 ts te cs ce rds)) (l1:=(MT n1 k n0 w t0 ct q0 ts te cs ce rds)) (ro:=[d.cell]) (cs:=[(n1+2,itO (n1+1) ((k:Int)+1)),(UC n0 w t0 ct q0 tk d),(n0+2,listO ts te),(BA n0 cs d counts tk ce),(Jp n1 rds)]) [0,1,2,3,4] [] [n1+2,n0+0,n0+2,n0+5] ((qQ _ ..).2.1 _ ..).sg rfl (ob (X0 hok.i0 (by omega) (by rw [Ic.len];omega)) (ob XK (ob (Xj hok.i0 (by omega) hu1) (ob (XE (decide_eq_false p2)) (ob (Xj hok.j0 (by omega) hu3) (ob (ZK (decide_eq_true p1)) (ob (Xj hok.i0 (by omega) hu2) (ob (Xj hok.i0 (by omega) hu1) (ob (Ya (k:=k) hk) Xn))))))))) (by rw [Xk];exact hw.2) rm hp H rfl rfl rfl
    (fun p hq=>by rw [List.mem_singleton.mp hq];exact List.mem_append_left _ (List.mem_map_of_mem hd)) (H.with1 (List.mem_append_left _ (List.mem_map_of_mem hd))) (Xf (lm:=(Ux n1 k n0 w t0 ct q0 ts te cs ce)) [4] rfl rfl) (Xg hw.1) trivial ?_
   intro h1 hp1 S1 X1;rw [Xt];have e1:(takStep (taken,counts) d.d).1=taken:=by
    unfold takStep;dsimp only;rw [if_neg (fun x=>p2 x.2)];try rfl
   refine Hn h1 _ ts (cs.set d.i.toNat (.int (counts.getD d.i.toNat 0 - 1) (tk+4))) (tk+0) (tk+1) (tk+2) (.int d.i d.ti) (.int d.j d.tj) (.int d.m d.tm) hp1 X1 (by rw [e1];exact It) (Ic.set _ _ _) S1
 ·refine XP (L:=(MT n1 k n0 w t0 ct q0 ts te cs ce rds)) (l1:=(MT n1 k n0 w t0 ct q0 ts te cs ce rds)) (ro:=[d.cell]) (cs:=[(n1+2,itO (n1+1) ((k:Int)+1)),(UC n0 w t0 ct q0 tk d),(n0+2,listO ts te),(BA n0 cs d counts tk ce),(Jp n1 rds)]) [0,1,2,3,4] [] [n1+2,n0+0,n0+2,n0+5] (G4 (W1 w) (W2 w) w.params n0 t0 n1 t1 h.objs.size tk dl ct c.1 c.2.1 c.2.2 tc0 tc1 tc2 ec k (rds.map DC.val) ts cs te ce q0 d.a d.i d.j d.m d.ti d.tj d.tm d.ed (counts.getD d.i.toNat 0) (taken.getD d.i.toNat 0) (taken.getD d.j.toNat 0) u1 u2 u3).sg rfl (ob (X0 hok.i0 (by omega) (by rw [Ic.len];omega)) (ob XK (ob (Xj hok.i0 (by omega) hu1) (ob (ZK (decide_eq_false p1)) (ob (Xj hok.i0 (by omega) hu2) (ob (Xj hok.i0 (by omega) hu1) (ob (Ya (k:=k) hk) Xn))))))) (by rw [Xk];exact hw.2) rm hp H rfl rfl rfl
   (fun p hq=>by rw [List.mem_singleton.mp hq];exact List.mem_append_left _ (List.mem_map_of_mem hd)) (H.with1 (List.mem_append_left _ (List.mem_map_of_mem hd))) (Xf (lm:=(Ux n1 k n0 w t0 ct q0 ts te cs ce)) [4] rfl rfl) (Xg hw.1) trivial ?_
  intro h1 hp1 S1 X1;rw [Xt];have e1:(takStep (taken,counts) d.d).1=taken:=by
   unfold takStep;dsimp only;rw [if_neg (fun x=>p1 x.1)];try rfl
  refine Hn h1 _ ts (cs.set d.i.toNat (.int (counts.getD d.i.toNat 0 - 1) (tk+4))) (tk+0) (tk+1) (tk+2) (.int d.i d.ti) (.int d.j d.tj) (.int d.m d.tm) hp1 X1 (by rw [e1];exact It) (Ic.set _ _ _) S1
abbrev MU n1 k n0(w:World) t0 ct q0 q1 q2 q3 vi vj vm ts te cs ce(rds:List DC):=([(n1+2,itO (n1+1) k),(n0+0,fT w.params n0 t0 ct q0 (fT3 w.params q1 q2 q3 vi vj vm) 6),(n0+2,listO ts te),(n0+5,listO cs ce),(Jp n1 rds)]:ZQ)
abbrev Uz n0(w:World) t0 ct q0 q1 q2 q3(d:DC):=((n0+0,fT w.params n0 t0 ct q0 (fT3 w.params q1 q2 q3 (.int d.i d.ti) (.int d.j d.tj) (.int d.m d.tm)) 6):Xp)
abbrev Uv n1 k n0(w:World) t0 ct q0 q1 q2 q3 vi vj vm ts te cs ce:=([(n1+2,itO (n1+1) k),(n0+0,fT w.params n0 t0 ct q0 (fT3 w.params q1 q2 q3 vi vj vm) 6),(n0+2,listO ts te),(n0+5,listO cs ce)]:ZQ)
theorem G2{R:Result->Shared->Prop}{h:Heap}{tk k te ce:Nat}{ts cs:List Value}{taken counts:List Int}{d:DC}{q1 q2 q3:Nat}{vi vj vm:Value}(rm:Room 0 A)(hp:Prog (PP w) h)(hd:d∈rds)(hok:d.Ok)(hk:(rds.map DC.val)[k]? =some d.val)
  (It:Ints ts taken)(Ic:Ints cs counts)(hlt:taken.length=3)(hlc:counts.length=3)(H:Has h ((MU n1 k n0 w t0 ct q0 q1 q2 q3 vi vj vm ts te cs ce rds)++(rds.map DC.cell++E))) (Hn:∀h' tk' ts' cs' q1' q2' q3' vi' vj' vm',Prog (PP w) h'->Ext [n1+2,n0+0,n0+2,n0+5] h h'->Ints ts' (takStep (taken,counts) d.d).1->Ints cs' (takStep (taken,counts) d.d).2-> Has h' ([(n1+2,itO (n1+1) ((k:Int)+1)),(n0+0,fT w.params n0 t0 ct q0 (fT3 w.params q1' q2' q3' vi' vj' vm') 6),(n0+2,listO ts' te),(n0+5,listO cs' ce),(Jp n1 rds)]++(rds.map DC.cell++E))->codeAny (model pw w) A (Ym (W1 w) (W2 w) w.params n0 t0 n1 t1 dl ct c.1 c.2.1 c.2.2 tc0 tc1 tc2 ec) R ⟨h',g,dr,tk',os⟩): codeAny (model pw w) A (Ym (W1 w) (W2 w) w.params n0 t0 n1 t1 dl ct c.1 c.2.1 c.2.2 tc0 tc1 tc2 ec) R ⟨h,g,dr,tk,os⟩:=by
 have hw:=Jr (W1 w) (W2 w) w.params n0 t0 n1 t1 dl ct c.1 c.2.1 c.2.2 tc0 tc1 tc2 ec;simp only [Prod.mk.injEq] at hw;have hi0:=hok.i0;have hi3:=hok.i3;have hj0:=hok.j0;have hj3:=hok.j3;obtain ⟨u1,hu1⟩:=Ic.get (i:=d.i.toNat) (by omega);obtain ⟨u2,hu2⟩:=It.get (i:=d.i.toNat) (by omega);obtain ⟨u3,hu3⟩:=It.get (i:=d.j.toNat) (by omega);refine Xi ?_
 by_cases p1:counts.getD d.i.toNat 0<=taken.getD d.i.toNat 0
 ·by_cases p2:d.m>taken.getD d.j.toNat 0
  ·refine XP (L:=(MU n1 k n0 w t0 ct q0 q1 q2 q3 vi vj vm ts te cs ce rds)) (l1:=(MU n1 k n0 w t0 ct q0 q1 q2 q3 vi vj vm ts te cs ce rds)) (ro:=[d.cell]) (cs:=[(n1+2,itO (n1+1) ((k:Int)+1)),(Uz n0 w t0 ct q0 q1 q2 q3 d),(n0+2,listO (ts.set d.j.toNat (.int d.m d.tm)) te),(BA n0 cs d counts tk ce),(Jp n1 rds)]) [0,1,2,3,4] [] [n1+2,n0+0,n0+2,n0+5] ((qQ _ ..).2.2.2.1 _ ..).sg rfl (ob (X0 hok.i0 (by omega) (by rw [Ic.len];omega)) (ob XK (ob (Xj hok.i0 (by omega) hu1) (ob (X0 hok.j0 (by omega) (by rw [It.len];omega)) (ob (XE (decide_eq_true p2)) (ob (Xj hok.j0 (by omega) hu3) (ob (ZK (decide_eq_true p1)) (ob (Xj hok.i0 (by omega) hu2) (ob (Xj hok.i0 (by omega) hu1) (ob (Ya (k:=k) hk) Xn)))))))))) (by rw [Xk];exact hw.2) rm hp H rfl rfl rfl
    (fun p hq=>by rw [List.mem_singleton.mp hq];exact List.mem_append_left _ (List.mem_map_of_mem hd)) (H.with1 (List.mem_append_left _ (List.mem_map_of_mem hd))) (Xf (lm:=(Uv n1 k n0 w t0 ct q0 q1 q2 q3 vi vj vm ts te cs ce)) [4] rfl rfl) (Xg hw.1) trivial ?_
   intro h1 hp1 S1 X1;rw [Xt];have e1:(takStep (taken,counts) d.d).1=taken.set d.j.toNat d.m:=by
    unfold takStep;dsimp only;rw [if_pos ⟨p1,p2⟩];try rfl
   refine Hn h1 _ (ts.set d.j.toNat (.int d.m d.tm)) (cs.set d.i.toNat (.int (counts.getD d.i.toNat 0 - 1) (tk+4))) q1 q2 q3 (.int d.i d.ti) (.int d.j d.tj) (.int d.m d.tm) hp1 X1 (by rw [e1];exact It.set _ _ _) (Ic.set _ _ _) S1
  ·refine XP (L:=(MU n1 k n0 w t0 ct q0 q1 q2 q3 vi vj vm ts te cs ce rds)) (l1:=(MU n1 k n0 w t0 ct q0 q1 q2 q3 vi vj vm ts te cs ce rds)) (ro:=[d.cell]) (cs:=[(n1+2,itO (n1+1) ((k:Int)+1)),(Uz n0 w t0 ct q0 q1 q2 q3 d),(n0+2,listO ts te),(BA n0 cs d counts tk ce),(Jp n1 rds)]) [0,1,2,3,4] [] [n1+2,n0+0,n0+2,n0+5] ((qQ _ ..).2.2.2.2.1 _ ..).sg rfl (ob (X0 hok.i0 (by omega) (by rw [Ic.len];omega)) (ob XK (ob (Xj hok.i0 (by omega) hu1) (ob (XE (decide_eq_false p2)) (ob (Xj hok.j0 (by omega) hu3) (ob (ZK (decide_eq_true p1)) (ob (Xj hok.i0 (by omega) hu2) (ob (Xj hok.i0 (by omega) hu1) (ob (Ya (k:=k) hk) Xn))))))))) (by rw [Xk];exact hw.2) rm hp H rfl rfl rfl
    (fun p hq=>by rw [List.mem_singleton.mp hq];exact List.mem_append_left _ (List.mem_map_of_mem hd)) (H.with1 (List.mem_append_left _ (List.mem_map_of_mem hd))) (Xf (lm:=(Uv n1 k n0 w t0 ct q0 q1 q2 q3 vi vj vm ts te cs ce)) [4] rfl rfl) (Xg hw.1) trivial ?_
   intro h1 hp1 S1 X1;rw [Xt];have e1:(takStep (taken,counts) d.d).1=taken:=by
    unfold takStep;dsimp only;rw [if_neg (fun x=>p2 x.2)];try rfl
   refine Hn h1 _ ts (cs.set d.i.toNat (.int (counts.getD d.i.toNat 0 - 1) (tk+4))) q1 q2 q3 (.int d.i d.ti) (.int d.j d.tj) (.int d.m d.tm) hp1 X1 (by rw [e1];exact It) (Ic.set _ _ _) S1
 ·refine XP (L:=(MU n1 k n0 w t0 ct q0 q1 q2 q3 vi vj vm ts te cs ce rds)) (l1:=(MU n1 k n0 w t0 ct q0 q1 q2 q3 vi vj vm ts te cs ce rds)) (ro:=[d.cell]) (cs:=[(n1+2,itO (n1+1) ((k:Int)+1)),(Uz n0 w t0 ct q0 q1 q2 q3 d),(n0+2,listO ts te),(BA n0 cs d counts tk ce),(Jp n1 rds)]) [0,1,2,3,4] [] [n1+2,n0+0,n0+2,n0+5] (G3 (W1 w) (W2 w) w.params n0 t0 n1 t1 h.objs.size tk dl ct c.1 c.2.1 c.2.2 tc0 tc1 tc2 ec k (rds.map DC.val) ts cs te ce q0 d.a d.i d.j d.m d.ti d.tj d.tm d.ed (counts.getD d.i.toNat 0) (taken.getD d.i.toNat 0) (taken.getD d.j.toNat 0) u1 u2 u3 q1 q2 q3 vi vj vm).sg rfl (ob (X0 hok.i0 (by omega) (by rw [Ic.len];omega)) (ob XK (ob (Xj hok.i0 (by omega) hu1) (ob (ZK (decide_eq_false p1)) (ob (Xj hok.i0 (by omega) hu2) (ob (Xj hok.i0 (by omega) hu1) (ob (Ya (k:=k) hk) Xn))))))) (by rw [Xk];exact hw.2) rm hp H rfl rfl rfl
   (fun p hq=>by rw [List.mem_singleton.mp hq];exact List.mem_append_left _ (List.mem_map_of_mem hd)) (H.with1 (List.mem_append_left _ (List.mem_map_of_mem hd))) (Xf (lm:=(Uv n1 k n0 w t0 ct q0 q1 q2 q3 vi vj vm ts te cs ce)) [4] rfl rfl) (Xg hw.1) trivial ?_
  intro h1 hp1 S1 X1;rw [Xt];have e1:(takStep (taken,counts) d.d).1=taken:=by
   unfold takStep;dsimp only;rw [if_neg (fun x=>p1 x.1)];try rfl
  refine Hn h1 _ ts (cs.set d.i.toNat (.int (counts.getD d.i.toNat 0 - 1) (tk+4))) q1 q2 q3 (.int d.i d.ti) (.int d.j d.tj) (.int d.m d.tm) hp1 X1 (by rw [e1];exact It) (Ic.set _ _ _) S1
theorem qb{R:Result->Shared->Prop}(rm:Room 0 A)(hl:rds.length=4\/rds.length=5)(hok:∀d∈rds,d.Ok):
  ∀(todo done:List DC) {h:Heap} {tk te ce:Nat} {ts cs:List Value} {taken counts:List Int} {q1 q2 q3:Nat} {vi vj vm:Value},rds=done++todo->Prog (PP w) h->Ints ts taken->Ints cs counts->taken.length=3->counts.length=3-> Has h ([(n1+2,itO (n1+1) done.length),(n0+0,fT w.params n0 t0 ct q0 (fT3 w.params q1 q2 q3 vi vj vm) 6),(n0+2,listO ts te),(n0+5,listO cs ce),(n1+1,listO (rds.map DC.val) 0)]++(rds.map DC.cell++E))->
   (∀h' tk' ts' q1' q2' q3' vi' vj' vm',Prog (PP w) h'->Ext [n1+2,n0+0,n0+2,n0+5] h h'->Ints ts' ((todo.map DC.d).foldl takStep (taken,counts)).1->Has h' ([(n0+0,fT w.params n0 t0 ct q0 (fT3 w.params q1' q2' q3' vi' vj' vm') 6),(n0+2,listO ts' te)]++(rds.map DC.cell++E))->R (.ok .next) ⟨h',g,dr,tk',os⟩)-> codeAny (model pw w) A (Ym (W1 w) (W2 w) w.params n0 t0 n1 t1 dl ct c.1 c.2.1 c.2.2 tc0 tc1 tc2 ec) R ⟨h,g,dr,tk,os⟩
 | [],done,h,tk,te,ce,ts,cs,taken,counts,q1,q2,q3,vi,vj,vm=>by
  intro hdc hp It Ic hlt hlc H Hn;have hw:=Jr (W1 w) (W2 w) w.params n0 t0 n1 t1 dl ct c.1 c.2.1 c.2.2 tc0 tc1 tc2 ec;simp only [Prod.mk.injEq] at hw;have hlk:done.length=rds.length:=by rw [hdc,List.append_nil]
  have hlen:(rds.map DC.val).length=rds.length:=List.length_map ..;refine Xi ?_;rcases hl with hl | hl
  ·obtain ⟨a0,a1,a2,a3,hds⟩:=Mz (hlen.trans hl);rw [hlk,hl] at H;rw [hds] at H;refine Xm (k:=0) [0,4] [1,2,3] [n1+2] ((qQ _ ..).2.2.2.2.2.2.1 _ ..).sg rfl Xn rm hp H rfl rfl (Xf (lm:=[(n1+2,itO (n1+1) 4)]) [1] rfl rfl) (Xg hw.1) trivial ?_;intro h1 hp1 S1 X1;refine Hn h1 _ ts q1 q2 q3 vi vj vm hp1 (X1.to fun a ha=>by rw [List.mem_singleton.mp ha];exact .head _) It ?_;exact Has.re2 S1 [2,3] rfl
  ·obtain ⟨a0,a1,a2,a3,a4,hds⟩:=Bi (hlen.trans hl);rw [hlk,hl] at H;rw [hds] at H;refine Xm (k:=0) [0,4] [1,2,3] [n1+2] ((qQ _ ..).2.2.2.2.2.2.2 _ ..).sg rfl Xn rm hp H rfl rfl (Xf (lm:=[(n1+2,itO (n1+1) 5)]) [1] rfl rfl) (Xg hw.1) trivial ?_;intro h1 hp1 S1 X1;refine Hn h1 _ ts q1 q2 q3 vi vj vm hp1 (X1.to fun a ha=>by rw [List.mem_singleton.mp ha];exact .head _) It ?_;exact Has.re2 S1 [2,3] rfl
 | d::todo,done,h,tk,te,ce,ts,cs,taken,counts,q1,q2,q3,vi,vj,vm=>by
  intro hdc hp It Ic hlt hlc H Hn;have hm:d∈rds:=by rw [hdc];exact List.mem_append_right _ (.head _)
  have hkk:(rds.map DC.val)[done.length]? =some d.val:=by rw [hdc,List.map_append,List.getElem?_append_right (by simp)];simp
  have hL:=ZR (st:=(taken,counts)) (d:=d.d);refine G2 rm hp hm (hok d hm) hkk It Ic hlt hlc H ?_;intro h1 tk1 ts1 cs1 q1' q2' q3' vi' vj' vm' hp1 X1 It1 Ic1 S1;refine qb rm hl hok todo (done++[d]) (by rw [hdc,List.append_assoc];rfl) hp1 It1 Ic1 (hL.1.trans hlt) (hL.2.trans hlc) (by rw [List.length_append,List.length_singleton];exact S1) ?_;intro h2 tk2 ts2 q1'' q2'' q3'' vi'' vj'' vm'' hp2 X2 It2 S2;exact Hn h2 tk2 ts2 q1'' q2'' q3'' vi'' vj'' vm'' hp2 (X1.trans X2 fun a ha=>.inl ha) It2 S2
end
theorem G0{w:World}{A:Around}{g:Array GenState}{dr:Drawn}{os:OsState}{R:Result->Shared->Prop}{h:Heap}{tk:Nat}{dl ct:Addr}{c:V3}{tc0 tc1 tc2 ec de:Nat}{dcs:List DC}{E:List (Addr×Obj)}(rm:Room 60 A)(hp:Prog (PP w) h)(hl:dcs.length=4\/dcs.length=5)(hok:∀d∈dcs,d.Ok) (H:Has h ([(XT dl dcs de),(ct,v3O c tc0 tc1 tc2 ec)]++(dcs.map DC.cell++E))) (Hn:∀h' tk' r vs e,Prog (PP w) h'->Ext [] h h'->h.objs.size<=r->Has h' [(r,listO vs e)]->Ints vs (takF (dcs.map DC.d) c)->R (.ok (.ret (.ref r))) ⟨h',g,dr,tk',os⟩): codeAny (model pw w) A (.call (.ref 259) ⟨[.ref dl,.ref ct],[]⟩) R ⟨h,g,dr,tk,os⟩:=by
 have hct:ct≠h.objs.size+2:=fun e=>by
  have:=H.lt (.tail _ (.head _));rw [show (ct,v3O c tc0 tc1 tc2 ec).1=ct from rfl,e] at this;exact absurd this (Nat.not_lt.mpr (lar))
 refine XG (Nat.le_trans (lar) rm.d) (by rw [Yd];exact Nat.zero_le _) ?_;refine Xh (k:=40) [1] [0] [] (NC ..).toSeg rfl
  (ob (FQ hct (List.cons_ne_nil _ _) (show 3<=1000 by decide)) (ob Me Xn)) rm hp H rfl rfl (Xf (lm:=[]) [7] rfl rfl) (Nat.le_refl _) trivial ?_
 intro h1 hp1 S1 X1 _ st1;refine G1 (h:=h) st1.rm hl hp1 X1 S1 ?_;intro h2 tk2 u0 u1 u2 hp2 Y2 S2;rcases hl with hl | hl
 ·obtain ⟨d0,d1,d2,d3,rfl⟩:=Mz hl;refine Xh (k:=40) [0,5,2,3] [1,4,6] [h.objs.size+6,h.objs.size+0,h.objs.size+1] (FB ..).toSeg rfl Xn rm hp2 S2 rfl rfl (Xf (lm:=[(YY h),(Fq h w tk ct),(ZB h dl)]) [3] rfl rfl) st1.dd st1.kk ?_;intro h3 hp3 S3 X3 _ st3;have S3':Has h3 ([(h2.objs.size+2,itO (h2.objs.size+1) (0:Nat)),(h.objs.size+0,fT w.params h.objs.size tk ct (tk2+0) [] 3),(ZC h c tc0 tc1 tc2),(h.objs.size+5,listO [.int (cntD ([d0,d1,d2,d3].map DC.d) 0:Nat) u0,.int (cntD ([d0,d1,d2,d3].map DC.d) 1:Nat) u1,.int (cntD ([d0,d1,d2,d3].map DC.d) 2:Nat) u2] 3),(h2.objs.size+1,listO ([d3,d2,d1,d0].map DC.val) 0)]++([d3,d2,d1,d0].map DC.cell++E)):=Has.perm (Has.re2 S3 [0,2,5,4,1] rfl) (List.Perm.append_left _ (List.Perm.append_right _ ((List.reverse_perm [d3,d2,d1,d0]).map DC.cell)));have fr3:∀a∈[h.objs.size+6,h.objs.size+0,h.objs.size+1],h.objs.size<=a:=by
   exact aL (lar) (aL (lar) (aL (lar) aN))
  have fr4:∀a∈[h2.objs.size+2,h.objs.size+0,h.objs.size+2,h.objs.size+5],h.objs.size<=a:=by
   exact aL (Nat.le_trans Y2.size (lar)) (aL (lar) (aL (lar) (aL (lar) aN)))
  have I0:Ints [.int c.1 tc0,.int c.2.1 tc1,.int c.2.2 tc2] [c.1,c.2.1,c.2.2]:=.cons (.cons (.cons .nil));have J0:Ints [.int (cntD ([d0,d1,d2,d3].map DC.d) 0:Nat) u0,.int (cntD ([d0,d1,d2,d3].map DC.d) 1:Nat) u1,.int (cntD ([d0,d1,d2,d3].map DC.d) 2:Nat) u2] [(cntD ([d0,d1,d2,d3].map DC.d) 0:Int),(cntD ([d0,d1,d2,d3].map DC.d) 1:Int),(cntD ([d0,d1,d2,d3].map DC.d) 2:Int)]:=.cons (.cons (.cons .nil));have hrok:∀d∈[d3,d2,d1,d0],d.Ok:=fun d hd=>hok d (List.mem_reverse.mp hd);refine yp (k:=0) (d:=d3) (st3.rm.le (by decide)) hp3 (.head _) (hrok _ (.head _)) rfl I0 J0 rfl rfl S3' ?_;intro h4 tk4 ts4 cs4 q1 q2 q3 vi vj vm hp4 X4 It4 Ic4 S4;have hL:=ZR (st:=([c.1,c.2.1,c.2.2],[(cntD ([d0,d1,d2,d3].map DC.d) 0:Int),(cntD ([d0,d1,d2,d3].map DC.d) 1:Int),(cntD ([d0,d1,d2,d3].map DC.d) 2:Int)])) (d:=d3.d);refine qb (st3.rm.le (by decide)) (by left;rfl) hrok [d2,d1,d0] [d3] rfl hp4 It4 Ic4 hL.1 hL.2 S4 ?_;intro h5 tk5 ts5 q1' q2' q3' vi' vj' vm' hp5 X5 It5 S5;refine XF (k:=60) [0] [1] [] ((yA ..).2.2.2.2.2 _ ..).sg rfl Xn rm hp5 S5 rfl rfl (Xf (lm:=[]) [0] rfl rfl) st3.dd st3.kk ?_;intro h6 hp6 S6 X6;refine Hn h6 _ (h.objs.size+2) ts5 1 hp6 ((((Y2.new X3 fr3).new X4 fr4).new X5 fr4).trans X6 YF) (lar) ?_ ?_
  ·exact (Has.re2 S6 [1] rfl).left
  ·exact It5
 ·obtain ⟨d0,d1,d2,d3,d4,rfl⟩:=Bi hl;refine Xh (k:=40) [0,5,2,3] [1,4,6] [h.objs.size+6,h.objs.size+0,h.objs.size+1] ((yA ..).2.2.2.1 _ ..).1.sg rfl Xn rm hp2 S2 rfl rfl (Xf (lm:=[(YY h),(Fq h w tk ct),(ZB h dl)]) [3] rfl rfl) st1.dd st1.kk ?_;intro h3 hp3 S3 X3 _ st3;have S3':Has h3 ([(h2.objs.size+2,itO (h2.objs.size+1) (0:Nat)),(h.objs.size+0,fT w.params h.objs.size tk ct (tk2+0) [] 3),(ZC h c tc0 tc1 tc2),(h.objs.size+5,listO [.int (cntD ([d0,d1,d2,d3,d4].map DC.d) 0:Nat) u0,.int (cntD ([d0,d1,d2,d3,d4].map DC.d) 1:Nat) u1,.int (cntD ([d0,d1,d2,d3,d4].map DC.d) 2:Nat) u2] 3),(h2.objs.size+1,listO ([d4,d3,d2,d1,d0].map DC.val) 0)]++([d4,d3,d2,d1,d0].map DC.cell++E)):=Has.perm (Has.re2 S3 [0,2,5,4,1] rfl) (List.Perm.append_left _ (List.Perm.append_right _ ((List.reverse_perm [d4,d3,d2,d1,d0]).map DC.cell)));have fr3:∀a∈[h.objs.size+6,h.objs.size+0,h.objs.size+1],h.objs.size<=a:=by
   exact aL (lar) (aL (lar) (aL (lar) aN))
  have fr4:∀a∈[h2.objs.size+2,h.objs.size+0,h.objs.size+2,h.objs.size+5],h.objs.size<=a:=by
   exact aL (Nat.le_trans Y2.size (lar)) (aL (lar) (aL (lar) (aL (lar) aN)))
  have I0:Ints [.int c.1 tc0,.int c.2.1 tc1,.int c.2.2 tc2] [c.1,c.2.1,c.2.2]:=.cons (.cons (.cons .nil));have J0:Ints [.int (cntD ([d0,d1,d2,d3,d4].map DC.d) 0:Nat) u0,.int (cntD ([d0,d1,d2,d3,d4].map DC.d) 1:Nat) u1,.int (cntD ([d0,d1,d2,d3,d4].map DC.d) 2:Nat) u2] [(cntD ([d0,d1,d2,d3,d4].map DC.d) 0:Int),(cntD ([d0,d1,d2,d3,d4].map DC.d) 1:Int),(cntD ([d0,d1,d2,d3,d4].map DC.d) 2:Int)]:=.cons (.cons (.cons .nil));have hrok:∀d∈[d4,d3,d2,d1,d0],d.Ok:=fun d hd=>hok d (List.mem_reverse.mp hd);refine yp (k:=0) (d:=d4) (st3.rm.le (by decide)) hp3 (.head _) (hrok _ (.head _)) rfl I0 J0 rfl rfl S3' ?_;intro h4 tk4 ts4 cs4 q1 q2 q3 vi vj vm hp4 X4 It4 Ic4 S4;have hL:=ZR (st:=([c.1,c.2.1,c.2.2],[(cntD ([d0,d1,d2,d3,d4].map DC.d) 0:Int),(cntD ([d0,d1,d2,d3,d4].map DC.d) 1:Int),(cntD ([d0,d1,d2,d3,d4].map DC.d) 2:Int)])) (d:=d4.d);refine qb (st3.rm.le (by decide)) (by right;rfl) hrok [d3,d2,d1,d0] [d4] rfl hp4 It4 Ic4 hL.1 hL.2 S4 ?_;intro h5 tk5 ts5 q1' q2' q3' vi' vj' vm' hp5 X5 It5 S5;refine XF (k:=60) [0] [1] [] (((yA ..).2.2.2.1 _ ..).2 ..).sg rfl Xn rm hp5 S5 rfl rfl (Xf (lm:=[]) [0] rfl rfl) st3.dd st3.kk ?_;intro h6 hp6 S6 X6;refine Hn h6 _ (h.objs.size+2) ts5 1 hp6 ((((Y2.new X3 fr3).new X4 fr4).new X5 fr4).trans X6 YF) (lar) ?_ ?_
  ·exact (Has.re2 S6 [1] rfl).left
  ·exact It5

section
variable{w:World}{A:Around}{k:Nat}{Q:Fin->Shared->Prop}{Er:Value->Shared->Prop}{h:Heap}{g:Array GenState}{dr:Drawn}{os:OsState}{tk:Nat}
 {f:Nat}{O:List Nat}{R:List Pr}{c:Code}{t:Sem Fin}{K:List Fm}{d:Nat}{o:Out}{cd:Code}{m i:Nat}{obs:List Ob}{ix:List Nat}{L E l l1 cs rest ro:List (Addr×Obj)}{cm:Bool}
theorem Zu{kk:Nat}(jx kx:List Nat)(as:List Addr)(sg:Seg o .stop cd m i obs ix (cs++ro))(ho:o=ev ⟨pw,PP w,h.objs.size,tk,cm⟩ f O R c t K d l 0 0 [] [])(hobs:∀b∈obs,b.Holds (PP w) (model pw w))
  (rm:Room kk A)(hp:Prog (PP w) h)(H:Has h (L++E))(hl:l=l1++ro)(h1:l1=jx.filterMap (L[·]?))(hrest:rest=kx.filterMap (L[·]?))(hro:∀p∈ro,p∈E)(HL:Has h (L++ro))(has:∀p∈l1,p.1∈as\/p∈cs) (hdep:(ar cm A K c).depth<=A.depth+d)(hK:KOk cm A K) (Hn:∀h',Prog (PP w) h'->Has h' (cs++(rest++E))->Ext as h h'->h'.objs.size=h.objs.size+m->Stop cm k A o-> codeAny (model pw w) ((ar cm A o.res.K o.res.c).mark none) cd (fun r s'=>Goes cm (model pw w) A Q Er o.res.K o.res.c (o.res.k r) s') ⟨h',g,dr,tk+i,os⟩)(hjk:(jx++kx).Nodup:=by decide)(hix:ix.Nodup:=by decide)(hkk:k+20<=kk:=by decide):
  Goes cm (model pw w) A Q Er K c t ⟨h,g,dr,tk,os⟩:=by
 have Hl:Has h l:=by
  rw [hl];exact (H.left.pick jx h1 (List.nodup_append.mp hjk).1).join HL.right fun p hp q hq=>HL.apart2 (ZW h1 p hp) hq
 refine yt (k:=k) ⟨rm.h,Nat.le_trans (Nat.add_le_add_left hkk _) rm.d,by have:=rm.u;lia⟩ hp Hl hdep hK ho sg hobs ?_;intro h' D' k1 k2 k3;obtain ⟨S1,S2⟩:=D'.step2 (ro:=ro) sg.pick hix hl H h1 hrest hjk hro has;exact Hn h' D'.toProg S1 S2 D'.size ⟨k1,k2,k3⟩
end
theorem Has.with2{h:Heap}{l F G:List (Addr×Obj)}(H:Has h (l++(F++G))){p q:Addr×Obj}(hp:p∈F)(hq:q∈G):Has h (l++[p,q]):=by
 have H1:Has h ((l++[p])++[q]):=by
  have a:=H.with1 (List.mem_append_left _ hp);refine a.join ⟨fun x hx=>by rw [List.mem_singleton.mp hx];exact H.right.right.own q hq,by simp,fun x hx=>by rw [List.mem_singleton.mp hx];exact H.right.right.apart q hq⟩ ?_;intro x hx y hy;rw [List.mem_singleton.mp hy];rcases List.mem_append.mp hx with h1 | h1
  ·exact H.apart2 h1 (List.mem_append_right _ hq)
  ·rw [List.mem_singleton.mp h1];exact H.right.apart2 hp hq
 rw [List.append_assoc] at H1;exact H1
noncomputable def upd{α:Type}(f:Nat->α)(i:Nat)(a:α):Nat->α:=fun j=>if j=i then a else f j
theorem Xw{α:Type}{f:Nat->α}{i:Nat}{a:α}:upd f i a i=a:=if_pos rfl
theorem XU{α:Type}{f:Nat->α}{i j:Nat}{a:α}(h:j≠i):upd f i a j=f j:=if_neg h
structure MC where
 m:MP
 u:Nat
noncomputable def MC.val(c:MC):Value:=.str c.m.S c.u
noncomputable def Yw(n1:Addr)(ms:Nat->List MC)(es:Nat->Nat)(q:Nat):Addr×Obj:=(n1+q,listO ((ms q).map MC.val) (es q))
noncomputable def mcs(n1:Addr)(ms:Nat->List MC)(es:Nat->Nat):List (Addr×Obj):=[Yw n1 ms es 0,Yw n1 ms es 1,Yw n1 ms es 2]
noncomputable def NJ(n1:Addr)(ms:Nat->List MC)(es:Nat->Nat)(i:Nat):List (Addr×Obj):=[Yw n1 ms es ((i+1) % 3),Yw n1 ms es ((i+2) % 3)]
noncomputable def hcs(P:Params)(hs:Nat->HS):List (Addr×Obj):=(hs 0).cells P++((hs 1).cells P++(hs 2).cells P)
noncomputable def AA(P:Params)(hs:Nat->HS)(i:Nat):List (Addr×Obj):=(hs ((i+1) % 3)).cells P++(hs ((i+2) % 3)).cells P
theorem Ch{α:Type}(f:Nat->List α){i:Nat}(hi:i<3):(f 0++(f 1++f 2)).Perm (f i++(f ((i+1) % 3)++f ((i+2) % 3))):=by
 have:i=0\/i=1\/i=2:=lt3 (by assumption);rcases this with rfl | rfl | rfl
 ·exact List.Perm.refl _
 ·show (f 0++(f 1++f 2)).Perm (f 1++(f 2++f 0));rw [←List.append_assoc (f 1)];exact List.perm_append_comm
 ·show (f 0++(f 1++f 2)).Perm (f 2++(f 0++f 1));rw [←List.append_assoc (f 0)];exact List.perm_append_comm
theorem F2{P:Params}{hs:Nat->HS}{i:Nat}(hi:i<3):(hcs P hs).Perm ((hs i).cells P++AA P hs i):=Ch (fun q=>(hs q).cells P) hi
theorem FR{n1:Addr}{ms:Nat->List MC}{es:Nat->Nat}{i:Nat}(hi:i<3):(mcs n1 ms es).Perm (Yw n1 ms es i::NJ n1 ms es i):=Ch (fun q=>[Yw n1 ms es q]) hi
theorem Lf{P:Params}{hs:Nat->HS}{i:Nat}{s:HS}(hi:i<3):AA P (upd hs i s) i=AA P hs i:=by
 unfold AA;rw [XU (by omega),XU (by omega)]
theorem H0{n1:Addr}{ms:Nat->List MC}{es:Nat->Nat}{i:Nat}{a:List MC}{e:Nat}(hi:i<3):NJ n1 (upd ms i a) (upd es i e) i=NJ n1 ms es i:=by
 unfold NJ Yw;rw [XU (by omega),XU (by omega),XU (by omega),XU (by omega)]
section
variable{h:Heap}{P:Params}{hs:Nat->HS}{i:Nat}{X M Y:List (Addr×Obj)}{n1:Addr}{ms:Nat->List MC}{es:Nat->Nat}
theorem FM{C O D:List (Addr×Obj)}(e:D.Perm (C++O)):(X++(M++(D++Y))).Perm (C++(X++(M++(O++Y)))):=by
 refine (List.Perm.append_left X (List.Perm.append_left M (e.append_right Y))).trans ?_;rw [List.append_assoc];exact (List.Perm.append_left X (List.perm_append_comm_assoc M C _)).trans (List.perm_append_comm_assoc X C _)
theorem Zk(hi:i<3)(H:Has h (X++(M++(hcs P hs++Y)))):Has h ((hs i).cells P++(X++(M++(AA P hs i++Y)))):=H.perm (FM (F2 hi))
theorem Qq(hi:i<3){s:HS}(H:Has h (s.cells P++(X++(M++(AA P hs i++Y))))):Has h (X++(M++(hcs P (upd hs i s)++Y))):=by
 refine H.perm (List.Perm.symm (FM ?_));have:=F2 (P:=P) (hs:=upd hs i s) hi;rw [Xw,Lf hi] at this;exact this
theorem Fa(hi:i<3)(H:Has h (X++(mcs n1 ms es++Y))):Has h ((X++[Yw n1 ms es i])++(NJ n1 ms es i++Y)):=by
 rw [List.append_assoc];refine H.perm (List.Perm.append_left X ?_);exact (FR hi).append_right Y
theorem NI(hi:i<3){a:List MC}{e:Nat}(H:Has h ((X++[(n1+i,listO (a.map MC.val) e)])++(NJ n1 ms es i++Y))):Has h (X++(mcs n1 (upd ms i a) (upd es i e)++Y)):=by
 rw [List.append_assoc] at H;refine H.perm (List.Perm.append_left X (List.Perm.symm ?_));have:=(FR (n1:=n1) (ms:=upd ms i a) (es:=upd es i e) hi).append_right Y;rw [H0 hi] at this;unfold Yw at this;rw [Xw,Xw] at this;exact this
theorem Z7(hi:i<3):Yw n1 ms es i∈mcs n1 ms es:=by
 have:i=0\/i=1\/i=2:=lt3 (by assumption);rcases this with rfl | rfl | rfl
 ·exact .head _
 ·exact .tail _ (.head _)
 ·exact .tail _ (.tail _ (.head _))
end
abbrev N3:=Nat×Nat×Nat
noncomputable def g3(x:N3)(q:Nat):Nat:=if q=0 then x.1 else if q=1 then x.2.1 else x.2.2
structure CS where
 v:Nat->Nat->Nat
 r:Nat->List N3
noncomputable def hvF(st:CS)(d:D3):Nat->Nat:=fun q=>if 0<d.2.2 then max (st.v d.1.toNat q) (g3 ((st.r d.2.1.toNat).getD (d.2.2 - 1).toNat (0,0,0)) q) else st.v d.1.toNat q
def nvF(st:CS)(d:D3):Nat->Nat:=fun q=>hvF st d q+cond (d.1.toNat==q) 1 0
noncomputable def cstep(st:CS)(d:D3):CS:=⟨upd st.v d.1.toNat (nvF st d),upd st.r d.1.toNat (st.r d.1.toNat++[(nvF st d 0,nvF st d 1,nvF st d 2)])⟩
noncomputable def MC.x(c:MC):N3:=(c.m.n 0,c.m.n 1,c.m.n 2)
structure CR (xs ls:Nat->Addr) (hs:Nat->HS) (ms:Nat->List MC) (st:CS):Prop where
 x:∀p,p<3->(hs p).x=xs p
 l:∀p,p<3->(hs p).l=ls p
 ok:∀p,p<3->(hs p).Ok2
 v:∀p q,p<3->q<3->(hs p).dots q=st.v p q
 mok:∀p,p<3->∀c∈ms p,c.m.Ok
 r:∀p,p<3->(ms p).map MC.x=st.r p
structure CB (st:CS) (n:Nat) (c:Nat->Nat):Prop where
 v:∀p q,p<3->q<3->st.v p q<=1+c q
 x:∀p q,p<3->q<3->∀x∈st.r p,g3 x q<=1+c q
 s:c 0+c 1+c 2=n
 l:∀p,p<3->(st.r p).length=c p
theorem RZ{p:Nat}{up:Bool}{a b c q:Nat}:(MP.mk p up a b c).n q=FL a b c q+cond (p==q) 1 0:=by
 show rowN (FL a b c q) (p==q)=_;unfold rowN;cases p==q<;>rfl
theorem TU{st:CS}{n:Nat}{c:Nat->Nat}{d:D3}(B:CB st n c)(hi:d.1.toNat<3)(hj:d.2.1.toNat<3)(hm:d.2.2<=(st.r d.2.1.toNat).length){q:Nat}(hq:q<3):hvF st d q<=1+c q:=by
 unfold hvF;have h1:=B.v _ q hi hq
 split
 ·rename_i h0;have hlt:(d.2.2 - 1).toNat<(st.r d.2.1.toNat).length:=by omega
  have h2:=B.x _ q hj hq _ (List.getElem_mem hlt);rw [List.getD_eq_getElem?_getD,List.getElem?_eq_getElem hlt,Option.getD_some];omega
 ·exact h1
theorem Fi{f:Nat->Nat}{q:Nat}(hq:q<3):g3 (f 0,f 1,f 2) q=f q:=by
 have:q=0\/q=1\/q=2:=lt3 (by assumption);rcases this with rfl | rfl | rfl<;>rfl
theorem yh{f:Nat->Nat}{q:Nat}(hq:q<3):FL (f 0) (f 1) (f 2) q=f q:=by
 have:q=0\/q=1\/q=2:=lt3 (by assumption);rcases this with rfl | rfl | rfl<;>rfl
theorem CB.step{st:CS}{n:Nat}{c:Nat->Nat}{d:D3}(B:CB st n c)(hi:d.1.toNat<3)(hj:d.2.1.toNat<3)(hm:d.2.2<=(st.r d.2.1.toNat).length):
  CB (cstep st d) (n+1) (upd c d.1.toNat (c d.1.toNat+1)):=by
 have up:∀q,c q+cond (d.1.toNat==q) 1 0=upd c d.1.toNat (c d.1.toNat+1) q:=by
  intro q;unfold upd
  by_cases h:q=d.1.toNat
  ·subst h;rw [if_pos rfl,beq_self_eq_true];rfl
  ·rw [if_neg h,beq_eq_false_iff_ne.mpr fun e=>h e.symm];rfl
 have up1:∀q,c q<=upd c d.1.toNat (c d.1.toNat+1) q:=fun q=>by rw [←up q];omega
 have nv:∀q,q<3->nvF st d q<=1+upd c d.1.toNat (c d.1.toNat+1) q:=by
  intro q hq;have:=TU B hi hj hm hq;rw [←up q];unfold nvF;omega
 refine ⟨?_,?_,?_,?_⟩
 ·intro p q hp hq;show upd st.v d.1.toNat (nvF st d) p q<=_
  by_cases h:p=d.1.toNat
  ·rw [h,Xw];exact nv q hq
  ·rw [XU h];exact Nat.le_trans (B.v p q hp hq) (Nat.add_le_add_left (up1 q) _)
 ·intro p q hp hq x hx;have hx':x∈upd st.r d.1.toNat (st.r d.1.toNat++[(nvF st d 0,nvF st d 1,nvF st d 2)]) p:=hx
  by_cases h:p=d.1.toNat
  ·rw [h,Xw] at hx';rcases List.mem_append.mp hx' with h1 | h1
   ·exact Nat.le_trans (B.x _ q hi hq x h1) (Nat.add_le_add_left (up1 q) _)
   ·rw [List.mem_singleton.mp h1,Fi hq];exact nv q hq
  ·rw [XU h] at hx';exact Nat.le_trans (B.x p q hp hq x hx') (Nat.add_le_add_left (up1 q) _)
 ·rw [←up 0,←up 1,←up 2];have:=B.s;have h3:d.1.toNat=0\/d.1.toNat=1\/d.1.toNat=2:=by lia
  rcases h3 with h3 | h3 | h3<;>rw [h3]<;>simp only [Nat.reduceBEq,cond_true,cond_false,beq_self_eq_true]<;>lia
 ·intro p hp;show (upd st.r d.1.toNat (st.r d.1.toNat++[(nvF st d 0,nvF st d 1,nvF st d 2)]) p).length=_
  by_cases h:p=d.1.toNat
  ·rw [h,Xw,Xw,List.length_append,B.l _ hi];rfl
  ·rw [XU h,XU h];exact B.l p hp
theorem yg{α:Type}{f:Nat->α}{i:Nat}{a b:α}:upd (upd f i a) i b=upd f i b:=by
 funext j
 unfold upd
 split<;>rfl
theorem CR.step{xs ls:Nat->Addr}{hs:Nat->HS}{ms:Nat->List MC}{st:CS}{d:D3}{s:HS}{c:MC}(C:CR xs ls hs ms st)(hi:d.1.toNat<3)(ok:s.Ok2)(hx:s.x=(hs d.1.toNat).x)(hl:s.l=(hs d.1.toNat).l) (hv:∀q,q<3->s.dots q=nvF st d q)(hc:c.m.Ok)(hcx:∀q,q<3->c.m.n q=nvF st d q):CR xs ls (upd hs d.1.toNat s) (upd ms d.1.toNat (ms d.1.toNat++[c])) (cstep st d):=by
 refine ⟨?_,?_,?_,?_,?_,?_⟩
 ·intro p hp
  by_cases h:p=d.1.toNat
  ·rw [h,Xw,hx];exact C.x _ hi
  ·rw [XU h];exact C.x p hp
 ·intro p hp
  by_cases h:p=d.1.toNat
  ·rw [h,Xw,hl];exact C.l _ hi
  ·rw [XU h];exact C.l p hp
 ·intro p hp
  by_cases h:p=d.1.toNat
  ·rw [h,Xw];exact ok
  ·rw [XU h];exact C.ok p hp
 ·intro p q hp hq;show _=upd st.v d.1.toNat (nvF st d) p q
  by_cases h:p=d.1.toNat
  ·rw [h,Xw,Xw];exact hv q hq
  ·rw [XU h,XU h];exact C.v p q hp hq
 ·intro p hp x hx
  by_cases h:p=d.1.toNat
  ·rw [h,Xw] at hx;rcases List.mem_append.mp hx with h1 | h1
   ·exact C.mok _ hi x h1
   ·rw [List.mem_singleton.mp h1];exact hc
  ·rw [XU h] at hx;exact C.mok p hp x hx
 ·intro p hp;show _=upd st.r d.1.toNat (st.r d.1.toNat++[(nvF st d 0,nvF st d 1,nvF st d 2)]) p
  by_cases h:p=d.1.toNat
  ·rw [h,Xw,Xw,List.map_append,C.r _ hi,List.map_singleton];unfold MC.x;rw [hcx 0 (by decide),hcx 1 (by decide),hcx 2 (by decide)]
  ·rw [XU h,XU h];exact C.r p hp
noncomputable abbrev fC(P:Params)(n0:Addr)(t0:Nat)(n1:Addr)(dl:Addr)(tt:Int)(ttk q0 q1:Nat)(more:List DictEntry)(e:Nat):Obj:=
 frameO (kn1 P (t0+0) (.ref dl)::Zq P (t0+1) (.int tt ttk)::Je P q0 (.ref (n0+3))::Jd P q1 (.ref (n1+3))::more) e
noncomputable abbrev fC4(P:Params)(q2 q3 q4 q5:Nat)(wt wi wj wm:Value)(more:List DictEntry):List DictEntry:=qi P q2 wt::kn5 P q3 wi::kn6 P q4 wj::kn7 P q5 wm::more
noncomputable abbrev fC1(P:Params)(q6:Nat)(wl:Value):List DictEntry:=[XY P q6 wl]
noncomputable def AL(n0 n1:Addr)(ls:Nat->Addr):List Addr:=[n1+5,n0+0,ls 0,ls 1,ls 2,n1+0,n1+1,n1+2]
theorem R4{n0 n1:Addr}{ls:Nat->Addr}:n1+5∈AL n0 n1 ls:=.head _
theorem qX{n0 n1:Addr}{ls:Nat->Addr}:n0+0∈AL n0 n1 ls:=.tail _ (.head _)
theorem AL_l{n0 n1:Addr}{ls:Nat->Addr}{i:Nat}(hi:i<3):ls i∈AL n0 n1 ls:=by
 rcases lt3 hi with rfl | rfl | rfl
 ·exact List.mem_of_getElem? (i:=2) rfl
 ·exact List.mem_of_getElem? (i:=3) rfl
 ·exact List.mem_of_getElem? (i:=4) rfl
theorem R3{n0 n1:Addr}{ls:Nat->Addr}{i:Nat}(hi:i<3):n1+i∈AL n0 n1 ls:=by
 rcases lt3 hi with rfl | rfl | rfl
 ·exact List.mem_of_getElem? (i:=5) rfl
 ·exact List.mem_of_getElem? (i:=6) rfl
 ·exact List.mem_of_getElem? (i:=7) rfl
theorem XZ{f:Nat->Addr}{i:Nat}(hi:i<3):([.ref (f 0),.ref (f 1),.ref (f 2)]:List Value)[i]? =some (.ref (f i)):=by
 have:i=0\/i=1\/i=2:=lt3 (by assumption);rcases this with rfl | rfl | rfl<;>rfl

section
variable{w:World}{A:Around}{g:Array GenState}{dr:Drawn}{os:OsState}{n0 t0 n1 t1:Nat}{dl:Addr}{tt:Int}{ttk q0 q1 de:Nat}{dcs:List DC}{xs ls:Nat->Addr}{E:List (Addr×Obj)}
abbrev ZZ n0(xs:Nat->Addr):=((n0+3,listO [.ref (xs 0),.ref (xs 1),.ref (xs 2)] 3):Xp)
abbrev Gj n0(w:World) t0 n1 dl tt ttk q0 q1 tk k(d:DC):=((n0+0,fC w.params n0 t0 n1 dl tt ttk q0 q1 (fC4 w.params (tk+1) (tk+2) (tk+3) (tk+4) (.int k (tk+0)) (.int d.i d.ti) (.int d.j d.tj) (.int d.m d.tm) []) 8):Xp)
abbrev Gx n1 k r n0(w:World) t0 dl tt ttk q0 q1 xs dcs de:=([(n1+5,rgO k r),(n0+0,fC w.params n0 t0 n1 dl tt ttk q0 q1 [] 4),(ZZ n0 xs),(Yu n1),(XT dl dcs de)]:ZQ)
theorem yP{R:Result->Shared->Prop}{h:Heap}{tk:Nat}{k r:Int}{hs:Nat->HS}{ms:Nat->List MC}{es:Nat->Nat}{st:CS}{d:DC}(rm:Room 120 A)(hp:Prog (PP w) h)(hd:d∈dcs)(hok:d.Ok)(hk0:0<=k)(hk9:k<100)(hk:(dcs.map DC.val)[k.toNat]? =some d.val)(hr:0<r)(C:CR xs ls hs ms st) (hm9:d.m<=(ms d.j.toNat).length)(hsum:hvF st d.d 0+hvF st d.d 1+hvF st d.d 2<=7)(hlen:∀p,p<3->(ms p).length<=100) (H:Has h ((Gx n1 k r n0 w t0 dl tt ttk q0 q1 xs dcs de)++(mcs n1 ms es++(hcs w.params hs++(dcs.map DC.cell++E))))) (Hn:∀h' tk' hs' ms' es' q2' q3' q4' q5' q6' wt' wi' wj' wm' wl',Prog (PP w) h'->Ext (AL n0 n1 ls) h h'->CR xs ls hs' ms' (cstep st d.d)-> Has h' ([(n1+5,rgO (k+1) (r - 1)),(n0+0,fC w.params n0 t0 n1 dl tt ttk q0 q1 (fC4 w.params q2' q3' q4' q5' wt' wi' wj' wm' (fC1 w.params q6' wl')) 9),(ZZ n0 xs),(Yu n1),(XT dl dcs de)]++(mcs n1 ms' es'++(hcs w.params hs'++(dcs.map DC.cell++E))))->codeAny (model pw w) A (YJ (W1 w) (W2 w) w.params n0 t0 n1 t1 dl tt ttk) R ⟨h',g,dr,tk',os⟩): codeAny (model pw w) A (YJ (W1 w) (W2 w) w.params n0 t0 n1 t1 dl tt ttk) R ⟨h,g,dr,tk,os⟩:=by
 have hw:=Jy (W1 w) (W2 w) w.params n0 t0 n1 t1 dl tt ttk;simp only [Prod.mk.injEq] at hw;have hi0:=hok.i0;have hi3':=hok.i3;have hj0:=hok.j0;have hj3':=hok.j3;have hi3:d.i.toNat<3:=by omega
 have hj3:d.j.toNat<3:=by omega
 have hl1:=hlen _ hi3;have hl2:=hlen _ hj3;have hdE2:d.cell∈hcs w.params hs++(dcs.map DC.cell++E):=List.mem_append_right _ (List.mem_append_left _ (List.mem_map_of_mem hd));have hdE:d.cell∈(mcs n1 ms es++(hcs w.params hs++(dcs.map DC.cell++E))):=List.mem_append_right _ hdE2;refine Xi ?_
 by_cases p1:d.m>0
 ·skip;have hlt:(d.m - 1).toNat<(ms d.j.toNat).length:=by omega
  obtain ⟨mm,hmm⟩:∃mm,(ms d.j.toNat)[(d.m - 1).toNat]? =some mm:=⟨_,List.getElem?_eq_getElem hlt⟩;have hmv:((ms d.j.toNat).map MC.val)[(d.m - 1).toNat]? =some (.str mm.m.S mm.u):=by rw [List.getElem?_map,hmm];rfl
  have hmok:=C.mok _ hj3 mm (List.mem_of_getElem? hmm);refine Zu (k:=100) (L:=(Gx n1 k r n0 w t0 dl tt ttk q0 q1 xs dcs de)) (l1:=(Gx n1 k r n0 w t0 dl tt ttk q0 q1 xs dcs de)) (ro:=[Yw n1 ms es d.j.toNat,d.cell]) (cs:=[(n1+5,rgO (k+1) (r - 1)),(Gj n0 w t0 n1 dl tt ttk q0 q1 tk k d),(ZZ n0 xs),(Yu n1),(XT dl dcs de)]) [0,1,2,3,4] [] [n1+5,n0+0] (BQ (W1 w) (W2 w) w.params n0 t0 n1 t1 h.objs.size tk dl tt ttk q0 q1 k r (r - 1) [.ref (xs 0),.ref (xs 1),.ref (xs 2)] [.ref (n1+0),.ref (n1+1),.ref (n1+2)] (dcs.map DC.val) 3 0 de d.a d.i d.j d.m d.ti d.tj d.tm d.ed (xs d.i.toNat) (n1+d.j.toNat) (n1+d.i.toNat) ((ms d.j.toNat).map MC.val) (es d.j.toNat) mm.m.S mm.u).sg rfl (ob (Xj (by omega) (by omega) hmv) (ob XK (ob (Xj hok.j0 (by omega) (XZ hj3)) (ob (Xj hok.i0 (by omega) (XZ hi3)) (ob (XE (decide_eq_true p1)) (ob (Xj hk0 (by omega) hk) (ob (YM hr rfl) Xn))))))) rm hp H rfl rfl rfl (fun p hq=>by
   rcases List.mem_cons.mp hq with h1 | h1
   ·rw [h1];exact List.mem_append_left _ (Z7 hj3)
   ·rw [List.mem_singleton.mp h1];exact hdE) (H.with2 (Z7 hj3) hdE2) (Xf (lm:=[(n1+5,rgO k r),(n0+0,fC w.params n0 t0 n1 dl tt ttk q0 q1 [] 4)]) [2,3,4] rfl rfl) (Xg hw.1) trivial ?_
  intro h1 hp1 S1 X1 _ st1;have S1':Has h1 ([(n1+5,rgO (k+1) (r - 1)),(Gj n0 w t0 n1 dl tt ttk q0 q1 tk k d),(ZZ n0 xs),(Yu n1),(XT dl dcs de)]++(mcs n1 ms es++(hcs w.params hs++(dcs.map DC.cell++E)))):=S1;have hc1:Code.call (.ref 220) ⟨[.ref (xs d.i.toNat),.str mm.m.S mm.u],[]⟩=Code.call (.ref 220) ⟨[.ref (hs d.i.toNat).x,.str mm.m.S mm.u],[]⟩:=by rw [C.x _ hi3]
  rw [hc1];refine Za st1.rm hp1 (C.ok _ hi3) hmok (Zk hi3 S1') ?_;intro h2 tk2 s2 hp2 X2 ok2 sm2 e2 S2;have S2':=Qq (hs:=hs) (s:=s2) hi3 S2;have hv2:∀q,q<3->s2.dots q=hvF st d.d q:=by
   intro q hq;rw [e2 q hq,C.v _ q hi3 hq];show _=(if 0<d.m then max (st.v d.i.toNat q) (g3 ((st.r d.j.toNat).getD (d.m - 1).toNat (0,0,0)) q) else st.v d.i.toNat q);rw [if_pos p1,←C.r _ hj3,List.getD_eq_getElem?_getD,List.getElem?_map,hmm];show _=max _ (g3 (mm.m.n 0,mm.m.n 1,mm.m.n 2) q);rw [Fi hq]
  refine Xh (k:=100) [1,2] [0,3,4] [] (Wo _ ..).1.sg rfl (ob XH (ob (Xj hok.i0 (by omega) (XZ hi3)) Xn)) rm hp2 S2' rfl rfl (Xf (lm:=[]) [0,1] rfl rfl) st1.dd st1.kk ?_;intro h3 hp3 S3 X3 _ st3;have S3':Has h3 ([(Gj n0 w t0 n1 dl tt ttk q0 q1 tk k d),(ZZ n0 xs),(n1+5,rgO (k+1) (r - 1)),(Yu n1),(XT dl dcs de)]++(mcs n1 ms es++(hcs w.params (upd hs d.i.toNat s2)++(dcs.map DC.cell++E)))):=S3;have T3:Has h3 (s2.cells w.params):=by
   have:=(Zk hi3 S3').left;rw [Xw] at this;exact this
  have hc2:Code.call (.ref 227) ⟨[.ref (xs d.i.toNat),.int d.i d.ti,.int (tt+k) (tk2+0)],[]⟩=Code.call (.ref 227) ⟨[.ref s2.x,.int (d.i.toNat:Nat) d.ti,.int (tt+k) (tk2+0)],[]⟩:=by rw [Int.toNat_of_nonneg hok.i0,sm2.x,C.x _ hi3]
  rw [hc2];refine Z8 st3.rm hp3 ok2 hi3 (by rw [hv2 0 (by decide),hv2 1 (by decide),hv2 2 (by decide)];exact hsum) T3 ?_;intro h4 tk4 tz hp4 X4;obtain ⟨m2,hm2⟩:∃m,m=MP.mk d.i.toNat (upOf (tt+k)) (s2.dots 0) (s2.dots 1) (s2.dots 2):=⟨_,rfl⟩;have hmS:mailS d.i.toNat (upOf (tt+k)) (s2.dots 0) (s2.dots 1) (s2.dots 2)=m2.S:=by rw [hm2];rfl
  have hm2ok:m2.Ok:=by rw [hm2];exact ⟨hi3,ok2.lo 0,ok2.lo 1,ok2.lo 2,by rw [hv2 0 (by decide),hv2 1 (by decide),hv2 2 (by decide)];exact hsum⟩
  have hm2n:∀q,q<3->m2.n q=nvF st d.d q:=by
   intro q hq;rw [hm2,RZ,yh hq,hv2 q hq]
   rfl
  rw [hmS];have S4:=S3'.ext X4;refine Xh (k:=100) [0,1] [2,3,4] [n0+0] ((Wo _ ..).2 ..).1.sg rfl (ob (Xj hok.i0 (by omega) (XZ hi3)) Xn) rm hp4 S4 rfl rfl (Xf (lm:=[(Gj n0 w t0 n1 dl tt ttk q0 q1 tk k d)]) [1] rfl rfl) st3.dd st3.kk ?_;intro h5 hp5 S5 X5 _ st5;have S5':Has h5 ([(n0+0,fC w.params n0 t0 n1 dl tt ttk q0 q1 (fC4 w.params (tk+1) (tk+2) (tk+3) (tk+4) (.int k (tk+0)) (.int d.i d.ti) (.int d.j d.tj) (.int d.m d.tm) (fC1 w.params (tk4+0) (.str m2.S tz))) 9),(ZZ n0 xs),(n1+5,rgO (k+1) (r - 1)),(Yu n1),(XT dl dcs de)]++(mcs n1 ms es++(hcs w.params (upd hs d.i.toNat s2)++(dcs.map DC.cell++E)))):=S5;have T5:=Zk hi3 S5';rw [Xw] at T5;have hc3:Code.call (.ref 220) ⟨[.ref (xs d.i.toNat),.str m2.S tz],[]⟩=Code.call (.ref 220) ⟨[.ref s2.x,.str m2.S tz],[]⟩:=by rw [sm2.x,C.x _ hi3]
  rw [hc3];refine Za st5.rm hp5 ok2 hm2ok T5 ?_;intro h6 tk6 s6 hp6 X6 ok6 sm6 e6 S6;have S6':=Fa hi3 (Qq (s:=s6) hi3 S6);rw [yg] at S6';have hv6:∀q,q<3->s6.dots q=nvF st d.d q:=by
   intro q hq;rw [e6 q hq,hm2n q hq,hv2 q hq];unfold nvF;omega
  have S6'':Has h6 ([(n0+0,fC w.params n0 t0 n1 dl tt ttk q0 q1 (fC4 w.params (tk+1) (tk+2) (tk+3) (tk+4) (.int k (tk+0)) (.int d.i d.ti) (.int d.j d.tj) (.int d.m d.tm) (fC1 w.params (tk4+0) (.str m2.S tz))) 9),(ZZ n0 xs),(n1+5,rgO (k+1) (r - 1)),(Yu n1),(XT dl dcs de),Yw n1 ms es d.i.toNat]++(NJ n1 ms es d.i.toNat++(hcs w.params (upd hs d.i.toNat s6)++(dcs.map DC.cell++E)))):=S6';refine Xy [0,5,3] [1,2,4] [n0+0,n1+d.i.toNat] (((Wo _ ..).2 ..).2 ..).sg rfl (ob (XI (by have:sizeLine=16777216:=rfl;rw [List.length_map];omega)) (ob (Xj hok.i0 (by omega) (XZ (f:=fun q=>n1+q) hi3)) Xn)) (by rw [Xk];exact hw.2) rm hp6 S6'' rfl rfl (Xf (lm:=[(n0+0,fC w.params n0 t0 n1 dl tt ttk q0 q1 (fC4 w.params (tk+1) (tk+2) (tk+3) (tk+4) (.int k (tk+0)) (.int d.i d.ti) (.int d.j d.tj) (.int d.m d.tm) (fC1 w.params (tk4+0) (.str m2.S tz))) 9),Yw n1 ms es d.i.toNat]) [2] rfl rfl) st5.dd st5.kk ?_;intro h7 hp7 S7 X7;rw [Xt];have S7':Has h7 (([(n1+5,rgO (k+1) (r - 1)),(n0+0,fC w.params n0 t0 n1 dl tt ttk q0 q1 (fC4 w.params (tk+1) (tk+2) (tk+3) (tk+4) (.int k (tk+0)) (.int d.i d.ti) (.int d.j d.tj) (.int d.m d.tm) (fC1 w.params (tk4+0) (.str m2.S tz))) 9),(ZZ n0 xs),(Yu n1),(XT dl dcs de)]++[(n1+d.i.toNat,listO ((ms d.i.toNat++[MC.mk m2 tz]).map MC.val) (es d.i.toNat+1))])++(NJ n1 ms es d.i.toNat++(hcs w.params (upd hs d.i.toNat s6)++(dcs.map DC.cell++E)))):=by
   rw [List.map_append];exact Has.re2 S7 [4,0,3,2,5,1] rfl
  have S8:=NI hi3 S7';have Y1:Ext (AL n0 n1 ls) h h1:=X1.to (aL R4 (aL qX aN));have Y2:=Y1.trans (X2.to (by intro a ha;rw [List.mem_singleton.mp ha,C.l _ hi3];exact AL_l hi3)) fun a ha=>.inl ha;have Y3:=Y2.trans X3 fun a ha=>(nomatch ha);have Y4:=Y3.trans X4 fun a ha=>(nomatch ha);have Y5:=Y4.trans (X5.to (aL qX aN)) fun a ha=>.inl ha;have Y6:=Y5.trans (X6.to (by intro a ha;rw [List.mem_singleton.mp ha,sm2.l,C.l _ hi3];exact AL_l hi3)) fun a ha=>.inl ha;have Y7:=Y6.trans (X7.to (aL qX (aL (R3 hi3) aN))) fun a ha=>.inl ha;exact Hn h7 _ (upd hs d.i.toNat s6) (upd ms d.i.toNat (ms d.i.toNat++[MC.mk m2 tz])) (upd es d.i.toNat (es d.i.toNat+1)) (tk+1) (tk+2) (tk+3) (tk+4) (tk4+0) (.int k (tk+0)) (.int d.i d.ti) (.int d.j d.tj) (.int d.m d.tm) (.str m2.S tz) hp7 Y7 (CR.step (d:=d.d) C hi3 ok6 (sm6.x.trans sm2.x) (sm6.l.trans sm2.l) hv6 hm2ok hm2n) S8
 ·skip;refine Zu (k:=100) (L:=(Gx n1 k r n0 w t0 dl tt ttk q0 q1 xs dcs de)) (l1:=(Gx n1 k r n0 w t0 dl tt ttk q0 q1 xs dcs de)) (ro:=[d.cell]) (cs:=[(n1+5,rgO (k+1) (r - 1)),(Gj n0 w t0 n1 dl tt ttk q0 q1 tk k d),(ZZ n0 xs),(Yu n1),(XT dl dcs de)]) [0,1,2,3,4] [] [n1+5,n0+0] (BP (W1 w) (W2 w) w.params n0 t0 n1 t1 h.objs.size tk dl tt ttk q0 q1 k r (r - 1) [.ref (xs 0),.ref (xs 1),.ref (xs 2)] [.ref (n1+0),.ref (n1+1),.ref (n1+2)] (dcs.map DC.val) 3 0 de d.a d.i d.j d.m d.ti d.tj d.tm d.ed (xs d.i.toNat) 0 (n1+d.i.toNat) [] 0 ⟨⟨[]⟩⟩ 0).sg rfl (ob XH (ob (Xj hok.i0 (by omega) (XZ hi3)) (ob (XE (decide_eq_false p1)) (ob (Xj hk0 (by omega) hk) (ob (YM hr rfl) Xn))))) rm hp H rfl rfl rfl (fun p hq=>by rw [List.mem_singleton.mp hq];exact hdE) (H.with1 hdE) (Xf (lm:=[(n1+5,rgO k r),(n0+0,fC w.params n0 t0 n1 dl tt ttk q0 q1 [] 4)]) [2,3,4] rfl rfl) (Xg hw.1) trivial ?_;intro h1 hp1 S1 X1 _ st1;have S1':Has h1 ([(n1+5,rgO (k+1) (r - 1)),(Gj n0 w t0 n1 dl tt ttk q0 q1 tk k d),(ZZ n0 xs),(Yu n1),(XT dl dcs de)]++(mcs n1 ms es++(hcs w.params hs++(dcs.map DC.cell++E)))):=S1;have ok2:=C.ok _ hi3;have hv2:∀q,q<3->(hs d.i.toNat).dots q=hvF st d.d q:=by
   intro q hq;rw [C.v _ q hi3 hq];show _=(if 0<d.m then max (st.v d.i.toNat q) (g3 ((st.r d.j.toNat).getD (d.m - 1).toNat (0,0,0)) q) else st.v d.i.toNat q);rw [if_neg p1]
  obtain ⟨s2,hs2⟩:∃s,s=hs d.i.toNat:=⟨_,rfl⟩;rw [←hs2] at ok2 hv2;have sm2:(hs d.i.toNat).Same s2:=by rw [hs2];exact HS.Same.refl _
  have hup:upd hs d.i.toNat s2=hs:=by
   funext q
   unfold upd
   split
   ·rename_i hq;rw [hq,hs2]
   ·rfl
  have S3':Has h1 ([(n1+5,rgO (k+1) (r - 1)),(Gj n0 w t0 n1 dl tt ttk q0 q1 tk k d),(ZZ n0 xs),(Yu n1),(XT dl dcs de)]++(mcs n1 ms es++(hcs w.params (upd hs d.i.toNat s2)++(dcs.map DC.cell++E)))):=by rw [hup];exact S1'
  have T3:Has h1 (s2.cells w.params):=by
   have:=(Zk hi3 S3').left;rw [Xw] at this;exact this
  have hc2:Code.call (.ref 227) ⟨[.ref (xs d.i.toNat),.int d.i d.ti,.int (tt+k) (tk+6)],[]⟩=Code.call (.ref 227) ⟨[.ref s2.x,.int (d.i.toNat:Nat) d.ti,.int (tt+k) (tk+6)],[]⟩:=by rw [Int.toNat_of_nonneg hok.i0,sm2.x,C.x _ hi3]
  rw [hc2];refine Z8 st1.rm hp1 ok2 hi3 (by rw [hv2 0 (by decide),hv2 1 (by decide),hv2 2 (by decide)];exact hsum) T3 ?_;intro h4 tk4 tz hp4 X4;obtain ⟨m2,hm2⟩:∃m,m=MP.mk d.i.toNat (upOf (tt+k)) (s2.dots 0) (s2.dots 1) (s2.dots 2):=⟨_,rfl⟩;have hmS:mailS d.i.toNat (upOf (tt+k)) (s2.dots 0) (s2.dots 1) (s2.dots 2)=m2.S:=by rw [hm2];rfl
  have hm2ok:m2.Ok:=by rw [hm2];exact ⟨hi3,ok2.lo 0,ok2.lo 1,ok2.lo 2,by rw [hv2 0 (by decide),hv2 1 (by decide),hv2 2 (by decide)];exact hsum⟩
  have hm2n:∀q,q<3->m2.n q=nvF st d.d q:=by
   intro q hq;rw [hm2,RZ,yh hq,hv2 q hq]
   rfl
  rw [hmS];have S4:=S3'.ext X4;refine Xh (k:=100) [1,2] [0,3,4] [n0+0] ((Wn _ ..).2 ..).1.sg rfl (ob (Xj hok.i0 (by omega) (XZ hi3)) Xn) rm hp4 S4 rfl rfl (Xf (lm:=[(Gj n0 w t0 n1 dl tt ttk q0 q1 tk k d)]) [1] rfl rfl) st1.dd st1.kk ?_;intro h5 hp5 S5 X5 _ st5;have S5':Has h5 ([(n0+0,fC w.params n0 t0 n1 dl tt ttk q0 q1 (fC4 w.params (tk+1) (tk+2) (tk+3) (tk+4) (.int k (tk+0)) (.int d.i d.ti) (.int d.j d.tj) (.int d.m d.tm) (fC1 w.params (tk4+0) (.str m2.S tz))) 9),(ZZ n0 xs),(n1+5,rgO (k+1) (r - 1)),(Yu n1),(XT dl dcs de)]++(mcs n1 ms es++(hcs w.params (upd hs d.i.toNat s2)++(dcs.map DC.cell++E)))):=S5;have T5:=Zk hi3 S5';rw [Xw] at T5;have hc3:Code.call (.ref 220) ⟨[.ref (xs d.i.toNat),.str m2.S tz],[]⟩=Code.call (.ref 220) ⟨[.ref s2.x,.str m2.S tz],[]⟩:=by rw [sm2.x,C.x _ hi3]
  rw [hc3];refine Za st5.rm hp5 ok2 hm2ok T5 ?_;intro h6 tk6 s6 hp6 X6 ok6 sm6 e6 S6;have S6':=Fa hi3 (Qq (s:=s6) hi3 S6);rw [yg] at S6';have hv6:∀q,q<3->s6.dots q=nvF st d.d q:=by
   intro q hq;rw [e6 q hq,hm2n q hq,hv2 q hq];unfold nvF;omega
  have S6'':Has h6 ([(n0+0,fC w.params n0 t0 n1 dl tt ttk q0 q1 (fC4 w.params (tk+1) (tk+2) (tk+3) (tk+4) (.int k (tk+0)) (.int d.i d.ti) (.int d.j d.tj) (.int d.m d.tm) (fC1 w.params (tk4+0) (.str m2.S tz))) 9),(ZZ n0 xs),(n1+5,rgO (k+1) (r - 1)),(Yu n1),(XT dl dcs de),Yw n1 ms es d.i.toNat]++(NJ n1 ms es d.i.toNat++(hcs w.params (upd hs d.i.toNat s6)++(dcs.map DC.cell++E)))):=S6';refine Xy [0,5,3] [1,2,4] [n0+0,n1+d.i.toNat] (((Wn _ ..).2 ..).2 ..).sg rfl (ob (XI (by have:sizeLine=16777216:=rfl;rw [List.length_map];omega)) (ob (Xj hok.i0 (by omega) (XZ (f:=fun q=>n1+q) hi3)) Xn)) (by rw [Xk];exact hw.2) rm hp6 S6'' rfl rfl (Xf (lm:=[(n0+0,fC w.params n0 t0 n1 dl tt ttk q0 q1 (fC4 w.params (tk+1) (tk+2) (tk+3) (tk+4) (.int k (tk+0)) (.int d.i d.ti) (.int d.j d.tj) (.int d.m d.tm) (fC1 w.params (tk4+0) (.str m2.S tz))) 9),Yw n1 ms es d.i.toNat]) [2] rfl rfl) st5.dd st5.kk ?_;intro h7 hp7 S7 X7;rw [Xt];have S7':Has h7 (([(n1+5,rgO (k+1) (r - 1)),(n0+0,fC w.params n0 t0 n1 dl tt ttk q0 q1 (fC4 w.params (tk+1) (tk+2) (tk+3) (tk+4) (.int k (tk+0)) (.int d.i d.ti) (.int d.j d.tj) (.int d.m d.tm) (fC1 w.params (tk4+0) (.str m2.S tz))) 9),(ZZ n0 xs),(Yu n1),(XT dl dcs de)]++[(n1+d.i.toNat,listO ((ms d.i.toNat++[MC.mk m2 tz]).map MC.val) (es d.i.toNat+1))])++(NJ n1 ms es d.i.toNat++(hcs w.params (upd hs d.i.toNat s6)++(dcs.map DC.cell++E)))):=by
   rw [List.map_append];exact Has.re2 S7 [4,0,3,2,5,1] rfl
  have S8:=NI hi3 S7';have Y1:Ext (AL n0 n1 ls) h h1:=X1.to (aL R4 (aL qX aN));have Y4:=Y1.trans X4 fun a ha=>(nomatch ha);have Y5:=Y4.trans (X5.to (aL qX aN)) fun a ha=>.inl ha;have Y6:=Y5.trans (X6.to (by intro a ha;rw [List.mem_singleton.mp ha,sm2.l,C.l _ hi3];exact AL_l hi3)) fun a ha=>.inl ha;have Y7:=Y6.trans (X7.to (aL qX (aL (R3 hi3) aN))) fun a ha=>.inl ha;exact Hn h7 _ (upd hs d.i.toNat s6) (upd ms d.i.toNat (ms d.i.toNat++[MC.mk m2 tz])) (upd es d.i.toNat (es d.i.toNat+1)) (tk+1) (tk+2) (tk+3) (tk+4) (tk4+0) (.int k (tk+0)) (.int d.i d.ti) (.int d.j d.tj) (.int d.m d.tm) (.str m2.S tz) hp7 Y7 (CR.step (d:=d.d) C hi3 ok6 (sm6.x.trans sm2.x) (sm6.l.trans sm2.l) hv6 hm2ok hm2n) S8
abbrev Gl n0(w:World) t0 n1 dl tt ttk q0 q1 q2 q3 q4 q5 k tk(d:DC) q6 wl:=((n0+0,fC w.params n0 t0 n1 dl tt ttk q0 q1 (fC4 w.params q2 q3 q4 q5 (.int k (tk+0)) (.int d.i d.ti) (.int d.j d.tj) (.int d.m d.tm) (fC1 w.params q6 wl)) 9):Xp)
abbrev Fp n0(w:World) t0 n1 dl tt ttk q0 q1 q2 q3 q4 q5 wt wi wj wm q6 wl:=((n0+0,fC w.params n0 t0 n1 dl tt ttk q0 q1 (fC4 w.params q2 q3 q4 q5 wt wi wj wm (fC1 w.params q6 wl)) 9):Xp)
theorem MY{R:Result->Shared->Prop}{h:Heap}{tk:Nat}{k r:Int}{hs:Nat->HS}{ms:Nat->List MC}{es:Nat->Nat}{st:CS}{d:DC}{q2 q3 q4 q5 q6:Nat}{wt wi wj wm wl:Value}(rm:Room 120 A)(hp:Prog (PP w) h)(hd:d∈dcs)(hok:d.Ok)(hk0:0<=k)(hk9:k<100)(hk:(dcs.map DC.val)[k.toNat]? =some d.val)(hr:0<r)(C:CR xs ls hs ms st) (hm9:d.m<=(ms d.j.toNat).length)(hsum:hvF st d.d 0+hvF st d.d 1+hvF st d.d 2<=7)(hlen:∀p,p<3->(ms p).length<=100) (H:Has h ([(n1+5,rgO k r),(Fp n0 w t0 n1 dl tt ttk q0 q1 q2 q3 q4 q5 wt wi wj wm q6 wl),(ZZ n0 xs),(Yu n1),(XT dl dcs de)]++(mcs n1 ms es++(hcs w.params hs++(dcs.map DC.cell++E))))) (Hn:∀h' tk' hs' ms' es' q2' q3' q4' q5' q6' wt' wi' wj' wm' wl',Prog (PP w) h'->Ext (AL n0 n1 ls) h h'->CR xs ls hs' ms' (cstep st d.d)-> Has h' ([(n1+5,rgO (k+1) (r - 1)),(n0+0,fC w.params n0 t0 n1 dl tt ttk q0 q1 (fC4 w.params q2' q3' q4' q5' wt' wi' wj' wm' (fC1 w.params q6' wl')) 9),(ZZ n0 xs),(Yu n1),(XT dl dcs de)]++(mcs n1 ms' es'++(hcs w.params hs'++(dcs.map DC.cell++E))))->codeAny (model pw w) A (YJ (W1 w) (W2 w) w.params n0 t0 n1 t1 dl tt ttk) R ⟨h',g,dr,tk',os⟩): codeAny (model pw w) A (YJ (W1 w) (W2 w) w.params n0 t0 n1 t1 dl tt ttk) R ⟨h,g,dr,tk,os⟩:=by
 have hw:=Jy (W1 w) (W2 w) w.params n0 t0 n1 t1 dl tt ttk;simp only [Prod.mk.injEq] at hw;have hi0:=hok.i0;have hi3':=hok.i3;have hj0:=hok.j0;have hj3':=hok.j3;have hi3:d.i.toNat<3:=by omega
 have hj3:d.j.toNat<3:=by omega
 have hl1:=hlen _ hi3;have hl2:=hlen _ hj3;have hdE2:d.cell∈hcs w.params hs++(dcs.map DC.cell++E):=List.mem_append_right _ (List.mem_append_left _ (List.mem_map_of_mem hd));have hdE:d.cell∈(mcs n1 ms es++(hcs w.params hs++(dcs.map DC.cell++E))):=List.mem_append_right _ hdE2;refine Xi ?_
 by_cases p1:d.m>0
 ·skip;have hlt:(d.m - 1).toNat<(ms d.j.toNat).length:=by omega
  obtain ⟨mm,hmm⟩:∃mm,(ms d.j.toNat)[(d.m - 1).toNat]? =some mm:=⟨_,List.getElem?_eq_getElem hlt⟩;have hmv:((ms d.j.toNat).map MC.val)[(d.m - 1).toNat]? =some (.str mm.m.S mm.u):=by rw [List.getElem?_map,hmm];rfl
  have hmok:=C.mok _ hj3 mm (List.mem_of_getElem? hmm);refine Zu (k:=100) (L:=[(n1+5,rgO k r),(Fp n0 w t0 n1 dl tt ttk q0 q1 q2 q3 q4 q5 wt wi wj wm q6 wl),(ZZ n0 xs),(Yu n1),(XT dl dcs de)]) (l1:=[(n1+5,rgO k r),(Fp n0 w t0 n1 dl tt ttk q0 q1 q2 q3 q4 q5 wt wi wj wm q6 wl),(ZZ n0 xs),(Yu n1),(XT dl dcs de)]) (ro:=[Yw n1 ms es d.j.toNat,d.cell]) (cs:=[(n1+5,rgO (k+1) (r - 1)),(Gl n0 w t0 n1 dl tt ttk q0 q1 q2 q3 q4 q5 k tk d q6 wl),(ZZ n0 xs),(Yu n1),(XT dl dcs de)]) [0,1,2,3,4] [] [n1+5,n0+0] (BO (W1 w) (W2 w) w.params n0 t0 n1 t1 h.objs.size tk dl tt ttk q0 q1 k r (r - 1) [.ref (xs 0),.ref (xs 1),.ref (xs 2)] [.ref (n1+0),.ref (n1+1),.ref (n1+2)] (dcs.map DC.val) 3 0 de d.a d.i d.j d.m d.ti d.tj d.tm d.ed (xs d.i.toNat) (n1+d.j.toNat) (n1+d.i.toNat) ((ms d.j.toNat).map MC.val) (es d.j.toNat) mm.m.S mm.u q2 q3 q4 q5 q6 wt wi wj wm wl).sg rfl (ob (Xj (by omega) (by omega) hmv) (ob XK (ob (Xj hok.j0 (by omega) (XZ hj3)) (ob (Xj hok.i0 (by omega) (XZ hi3)) (ob (XE (decide_eq_true p1)) (ob (Xj hk0 (by omega) hk) (ob (YM hr rfl) Xn))))))) rm hp H rfl rfl rfl (fun p hq=>by
   rcases List.mem_cons.mp hq with h1 | h1
   ·rw [h1];exact List.mem_append_left _ (Z7 hj3)
   ·rw [List.mem_singleton.mp h1];exact hdE) (H.with2 (Z7 hj3) hdE2) (Xf (lm:=[(n1+5,rgO k r),(Fp n0 w t0 n1 dl tt ttk q0 q1 q2 q3 q4 q5 wt wi wj wm q6 wl)]) [2,3,4] rfl rfl) (Xg hw.1) trivial ?_
  intro h1 hp1 S1 X1 _ st1;have S1':Has h1 ([(n1+5,rgO (k+1) (r - 1)),(Gl n0 w t0 n1 dl tt ttk q0 q1 q2 q3 q4 q5 k tk d q6 wl),(ZZ n0 xs),(Yu n1),(XT dl dcs de)]++(mcs n1 ms es++(hcs w.params hs++(dcs.map DC.cell++E)))):=S1;have hc1:Code.call (.ref 220) ⟨[.ref (xs d.i.toNat),.str mm.m.S mm.u],[]⟩=Code.call (.ref 220) ⟨[.ref (hs d.i.toNat).x,.str mm.m.S mm.u],[]⟩:=by rw [C.x _ hi3]
  rw [hc1];refine Za st1.rm hp1 (C.ok _ hi3) hmok (Zk hi3 S1') ?_;intro h2 tk2 s2 hp2 X2 ok2 sm2 e2 S2;have S2':=Qq (hs:=hs) (s:=s2) hi3 S2;have hv2:∀q,q<3->s2.dots q=hvF st d.d q:=by
   intro q hq;rw [e2 q hq,C.v _ q hi3 hq];show _=(if 0<d.m then max (st.v d.i.toNat q) (g3 ((st.r d.j.toNat).getD (d.m - 1).toNat (0,0,0)) q) else st.v d.i.toNat q);rw [if_pos p1,←C.r _ hj3,List.getD_eq_getElem?_getD,List.getElem?_map,hmm];show _=max _ (g3 (mm.m.n 0,mm.m.n 1,mm.m.n 2) q);rw [Fi hq]
  refine Xh (k:=100) [1,2] [0,3,4] [] (Wm _ ..).1.sg rfl (ob XH (ob (Xj hok.i0 (by omega) (XZ hi3)) Xn)) rm hp2 S2' rfl rfl (Xf (lm:=[]) [0,1] rfl rfl) st1.dd st1.kk ?_;intro h3 hp3 S3 X3 _ st3;have S3':Has h3 ([(Gl n0 w t0 n1 dl tt ttk q0 q1 q2 q3 q4 q5 k tk d q6 wl),(ZZ n0 xs),(n1+5,rgO (k+1) (r - 1)),(Yu n1),(XT dl dcs de)]++(mcs n1 ms es++(hcs w.params (upd hs d.i.toNat s2)++(dcs.map DC.cell++E)))):=S3;have T3:Has h3 (s2.cells w.params):=by
   have:=(Zk hi3 S3').left;rw [Xw] at this;exact this
  have hc2:Code.call (.ref 227) ⟨[.ref (xs d.i.toNat),.int d.i d.ti,.int (tt+k) (tk2+0)],[]⟩=Code.call (.ref 227) ⟨[.ref s2.x,.int (d.i.toNat:Nat) d.ti,.int (tt+k) (tk2+0)],[]⟩:=by rw [Int.toNat_of_nonneg hok.i0,sm2.x,C.x _ hi3]
  rw [hc2];refine Z8 st3.rm hp3 ok2 hi3 (by rw [hv2 0 (by decide),hv2 1 (by decide),hv2 2 (by decide)];exact hsum) T3 ?_;intro h4 tk4 tz hp4 X4;obtain ⟨m2,hm2⟩:∃m,m=MP.mk d.i.toNat (upOf (tt+k)) (s2.dots 0) (s2.dots 1) (s2.dots 2):=⟨_,rfl⟩;have hmS:mailS d.i.toNat (upOf (tt+k)) (s2.dots 0) (s2.dots 1) (s2.dots 2)=m2.S:=by rw [hm2];rfl
  have hm2ok:m2.Ok:=by rw [hm2];exact ⟨hi3,ok2.lo 0,ok2.lo 1,ok2.lo 2,by rw [hv2 0 (by decide),hv2 1 (by decide),hv2 2 (by decide)];exact hsum⟩
  have hm2n:∀q,q<3->m2.n q=nvF st d.d q:=by
   intro q hq;rw [hm2,RZ,yh hq,hv2 q hq]
   rfl
  rw [hmS];have S4:=S3'.ext X4;refine Xh (k:=100) [0,1] [2,3,4] [n0+0] ((Wm _ ..).2 ..).1.sg rfl (ob (Xj hok.i0 (by omega) (XZ hi3)) Xn) rm hp4 S4 rfl rfl (Xf (lm:=[(Gl n0 w t0 n1 dl tt ttk q0 q1 q2 q3 q4 q5 k tk d q6 wl)]) [1] rfl rfl) st3.dd st3.kk ?_;intro h5 hp5 S5 X5 _ st5;have S5':Has h5 ([(n0+0,fC w.params n0 t0 n1 dl tt ttk q0 q1 (fC4 w.params q2 q3 q4 q5 (.int k (tk+0)) (.int d.i d.ti) (.int d.j d.tj) (.int d.m d.tm) (fC1 w.params q6 (.str m2.S tz))) 9),(ZZ n0 xs),(n1+5,rgO (k+1) (r - 1)),(Yu n1),(XT dl dcs de)]++(mcs n1 ms es++(hcs w.params (upd hs d.i.toNat s2)++(dcs.map DC.cell++E)))):=S5;have T5:=Zk hi3 S5';rw [Xw] at T5;have hc3:Code.call (.ref 220) ⟨[.ref (xs d.i.toNat),.str m2.S tz],[]⟩=Code.call (.ref 220) ⟨[.ref s2.x,.str m2.S tz],[]⟩:=by rw [sm2.x,C.x _ hi3]
  rw [hc3];refine Za st5.rm hp5 ok2 hm2ok T5 ?_;intro h6 tk6 s6 hp6 X6 ok6 sm6 e6 S6;have S6':=Fa hi3 (Qq (s:=s6) hi3 S6);rw [yg] at S6';have hv6:∀q,q<3->s6.dots q=nvF st d.d q:=by
   intro q hq;rw [e6 q hq,hm2n q hq,hv2 q hq];unfold nvF;omega
  have S6'':Has h6 ([(n0+0,fC w.params n0 t0 n1 dl tt ttk q0 q1 (fC4 w.params q2 q3 q4 q5 (.int k (tk+0)) (.int d.i d.ti) (.int d.j d.tj) (.int d.m d.tm) (fC1 w.params q6 (.str m2.S tz))) 9),(ZZ n0 xs),(n1+5,rgO (k+1) (r - 1)),(Yu n1),(XT dl dcs de),Yw n1 ms es d.i.toNat]++(NJ n1 ms es d.i.toNat++(hcs w.params (upd hs d.i.toNat s6)++(dcs.map DC.cell++E)))):=S6';refine Xy [0,5,3] [1,2,4] [n0+0,n1+d.i.toNat] (((Wm _ ..).2 ..).2 ..).sg rfl (ob (XI (by have:sizeLine=16777216:=rfl;rw [List.length_map];omega)) (ob (Xj hok.i0 (by omega) (XZ (f:=fun q=>n1+q) hi3)) Xn)) (by rw [Xk];exact hw.2) rm hp6 S6'' rfl rfl (Xf (lm:=[(n0+0,fC w.params n0 t0 n1 dl tt ttk q0 q1 (fC4 w.params q2 q3 q4 q5 (.int k (tk+0)) (.int d.i d.ti) (.int d.j d.tj) (.int d.m d.tm) (fC1 w.params q6 (.str m2.S tz))) 9),Yw n1 ms es d.i.toNat]) [2] rfl rfl) st5.dd st5.kk ?_;intro h7 hp7 S7 X7;rw [Xt];have S7':Has h7 (([(n1+5,rgO (k+1) (r - 1)),(n0+0,fC w.params n0 t0 n1 dl tt ttk q0 q1 (fC4 w.params q2 q3 q4 q5 (.int k (tk+0)) (.int d.i d.ti) (.int d.j d.tj) (.int d.m d.tm) (fC1 w.params q6 (.str m2.S tz))) 9),(ZZ n0 xs),(Yu n1),(XT dl dcs de)]++[(n1+d.i.toNat,listO ((ms d.i.toNat++[MC.mk m2 tz]).map MC.val) (es d.i.toNat+1))])++(NJ n1 ms es d.i.toNat++(hcs w.params (upd hs d.i.toNat s6)++(dcs.map DC.cell++E)))):=by
   rw [List.map_append];exact Has.re2 S7 [4,0,3,2,5,1] rfl
  have S8:=NI hi3 S7';have Y1:Ext (AL n0 n1 ls) h h1:=X1.to (aL R4 (aL qX aN));have Y2:=Y1.trans (X2.to (by intro a ha;rw [List.mem_singleton.mp ha,C.l _ hi3];exact AL_l hi3)) fun a ha=>.inl ha;have Y3:=Y2.trans X3 fun a ha=>(nomatch ha);have Y4:=Y3.trans X4 fun a ha=>(nomatch ha);have Y5:=Y4.trans (X5.to (aL qX aN)) fun a ha=>.inl ha;have Y6:=Y5.trans (X6.to (by intro a ha;rw [List.mem_singleton.mp ha,sm2.l,C.l _ hi3];exact AL_l hi3)) fun a ha=>.inl ha;have Y7:=Y6.trans (X7.to (aL qX (aL (R3 hi3) aN))) fun a ha=>.inl ha;exact Hn h7 _ (upd hs d.i.toNat s6) (upd ms d.i.toNat (ms d.i.toNat++[MC.mk m2 tz])) (upd es d.i.toNat (es d.i.toNat+1)) q2 q3 q4 q5 q6 (.int k (tk+0)) (.int d.i d.ti) (.int d.j d.tj) (.int d.m d.tm) (.str m2.S tz) hp7 Y7 (CR.step (d:=d.d) C hi3 ok6 (sm6.x.trans sm2.x) (sm6.l.trans sm2.l) hv6 hm2ok hm2n) S8
 ·skip;refine Zu (k:=100) (L:=[(n1+5,rgO k r),(Fp n0 w t0 n1 dl tt ttk q0 q1 q2 q3 q4 q5 wt wi wj wm q6 wl),(ZZ n0 xs),(Yu n1),(XT dl dcs de)]) (l1:=[(n1+5,rgO k r),(Fp n0 w t0 n1 dl tt ttk q0 q1 q2 q3 q4 q5 wt wi wj wm q6 wl),(ZZ n0 xs),(Yu n1),(XT dl dcs de)]) (ro:=[d.cell]) (cs:=[(n1+5,rgO (k+1) (r - 1)),(Gl n0 w t0 n1 dl tt ttk q0 q1 q2 q3 q4 q5 k tk d q6 wl),(ZZ n0 xs),(Yu n1),(XT dl dcs de)]) [0,1,2,3,4] [] [n1+5,n0+0] (BN (W1 w) (W2 w) w.params n0 t0 n1 t1 h.objs.size tk dl tt ttk q0 q1 k r (r - 1) [.ref (xs 0),.ref (xs 1),.ref (xs 2)] [.ref (n1+0),.ref (n1+1),.ref (n1+2)] (dcs.map DC.val) 3 0 de d.a d.i d.j d.m d.ti d.tj d.tm d.ed (xs d.i.toNat) 0 (n1+d.i.toNat) [] 0 ⟨⟨[]⟩⟩ 0 q2 q3 q4 q5 q6 wt wi wj wm wl).sg rfl (ob XH (ob (Xj hok.i0 (by omega) (XZ hi3)) (ob (XE (decide_eq_false p1)) (ob (Xj hk0 (by omega) hk) (ob (YM hr rfl) Xn))))) rm hp H rfl rfl rfl (fun p hq=>by rw [List.mem_singleton.mp hq];exact hdE) (H.with1 hdE) (Xf (lm:=[(n1+5,rgO k r),(Fp n0 w t0 n1 dl tt ttk q0 q1 q2 q3 q4 q5 wt wi wj wm q6 wl)]) [2,3,4] rfl rfl) (Xg hw.1) trivial ?_;intro h1 hp1 S1 X1 _ st1;have S1':Has h1 ([(n1+5,rgO (k+1) (r - 1)),(Gl n0 w t0 n1 dl tt ttk q0 q1 q2 q3 q4 q5 k tk d q6 wl),(ZZ n0 xs),(Yu n1),(XT dl dcs de)]++(mcs n1 ms es++(hcs w.params hs++(dcs.map DC.cell++E)))):=S1;have ok2:=C.ok _ hi3;have hv2:∀q,q<3->(hs d.i.toNat).dots q=hvF st d.d q:=by
   intro q hq;rw [C.v _ q hi3 hq];show _=(if 0<d.m then max (st.v d.i.toNat q) (g3 ((st.r d.j.toNat).getD (d.m - 1).toNat (0,0,0)) q) else st.v d.i.toNat q);rw [if_neg p1]
  obtain ⟨s2,hs2⟩:∃s,s=hs d.i.toNat:=⟨_,rfl⟩;rw [←hs2] at ok2 hv2;have sm2:(hs d.i.toNat).Same s2:=by rw [hs2];exact HS.Same.refl _
  have hup:upd hs d.i.toNat s2=hs:=by
   funext q
   unfold upd
   split
   ·rename_i hq;rw [hq,hs2]
   ·rfl
  have S3':Has h1 ([(n1+5,rgO (k+1) (r - 1)),(Gl n0 w t0 n1 dl tt ttk q0 q1 q2 q3 q4 q5 k tk d q6 wl),(ZZ n0 xs),(Yu n1),(XT dl dcs de)]++(mcs n1 ms es++(hcs w.params (upd hs d.i.toNat s2)++(dcs.map DC.cell++E)))):=by rw [hup];exact S1'
  have T3:Has h1 (s2.cells w.params):=by
   have:=(Zk hi3 S3').left;rw [Xw] at this;exact this
  have hc2:Code.call (.ref 227) ⟨[.ref (xs d.i.toNat),.int d.i d.ti,.int (tt+k) (tk+6)],[]⟩=Code.call (.ref 227) ⟨[.ref s2.x,.int (d.i.toNat:Nat) d.ti,.int (tt+k) (tk+6)],[]⟩:=by rw [Int.toNat_of_nonneg hok.i0,sm2.x,C.x _ hi3]
  rw [hc2];refine Z8 st1.rm hp1 ok2 hi3 (by rw [hv2 0 (by decide),hv2 1 (by decide),hv2 2 (by decide)];exact hsum) T3 ?_;intro h4 tk4 tz hp4 X4;obtain ⟨m2,hm2⟩:∃m,m=MP.mk d.i.toNat (upOf (tt+k)) (s2.dots 0) (s2.dots 1) (s2.dots 2):=⟨_,rfl⟩;have hmS:mailS d.i.toNat (upOf (tt+k)) (s2.dots 0) (s2.dots 1) (s2.dots 2)=m2.S:=by rw [hm2];rfl
  have hm2ok:m2.Ok:=by rw [hm2];exact ⟨hi3,ok2.lo 0,ok2.lo 1,ok2.lo 2,by rw [hv2 0 (by decide),hv2 1 (by decide),hv2 2 (by decide)];exact hsum⟩
  have hm2n:∀q,q<3->m2.n q=nvF st d.d q:=by
   intro q hq;rw [hm2,RZ,yh hq,hv2 q hq]
   rfl
  rw [hmS];have S4:=S3'.ext X4;refine Xh (k:=100) [1,2] [0,3,4] [n0+0] ((Wl _ ..).2 ..).1.sg rfl (ob (Xj hok.i0 (by omega) (XZ hi3)) Xn) rm hp4 S4 rfl rfl (Xf (lm:=[(Gl n0 w t0 n1 dl tt ttk q0 q1 q2 q3 q4 q5 k tk d q6 wl)]) [1] rfl rfl) st1.dd st1.kk ?_;intro h5 hp5 S5 X5 _ st5;have S5':Has h5 ([(n0+0,fC w.params n0 t0 n1 dl tt ttk q0 q1 (fC4 w.params q2 q3 q4 q5 (.int k (tk+0)) (.int d.i d.ti) (.int d.j d.tj) (.int d.m d.tm) (fC1 w.params q6 (.str m2.S tz))) 9),(ZZ n0 xs),(n1+5,rgO (k+1) (r - 1)),(Yu n1),(XT dl dcs de)]++(mcs n1 ms es++(hcs w.params (upd hs d.i.toNat s2)++(dcs.map DC.cell++E)))):=S5;have T5:=Zk hi3 S5';rw [Xw] at T5;have hc3:Code.call (.ref 220) ⟨[.ref (xs d.i.toNat),.str m2.S tz],[]⟩=Code.call (.ref 220) ⟨[.ref s2.x,.str m2.S tz],[]⟩:=by rw [sm2.x,C.x _ hi3]
  rw [hc3];refine Za st5.rm hp5 ok2 hm2ok T5 ?_;intro h6 tk6 s6 hp6 X6 ok6 sm6 e6 S6;have S6':=Fa hi3 (Qq (s:=s6) hi3 S6);rw [yg] at S6';have hv6:∀q,q<3->s6.dots q=nvF st d.d q:=by
   intro q hq;rw [e6 q hq,hm2n q hq,hv2 q hq];unfold nvF;omega
  have S6'':Has h6 ([(n0+0,fC w.params n0 t0 n1 dl tt ttk q0 q1 (fC4 w.params q2 q3 q4 q5 (.int k (tk+0)) (.int d.i d.ti) (.int d.j d.tj) (.int d.m d.tm) (fC1 w.params q6 (.str m2.S tz))) 9),(ZZ n0 xs),(n1+5,rgO (k+1) (r - 1)),(Yu n1),(XT dl dcs de),Yw n1 ms es d.i.toNat]++(NJ n1 ms es d.i.toNat++(hcs w.params (upd hs d.i.toNat s6)++(dcs.map DC.cell++E)))):=S6';refine Xy [0,5,3] [1,2,4] [n0+0,n1+d.i.toNat] (((Wl _ ..).2 ..).2 ..).sg rfl (ob (XI (by have:sizeLine=16777216:=rfl;rw [List.length_map];omega)) (ob (Xj hok.i0 (by omega) (XZ (f:=fun q=>n1+q) hi3)) Xn)) (by rw [Xk];exact hw.2) rm hp6 S6'' rfl rfl (Xf (lm:=[(n0+0,fC w.params n0 t0 n1 dl tt ttk q0 q1 (fC4 w.params q2 q3 q4 q5 (.int k (tk+0)) (.int d.i d.ti) (.int d.j d.tj) (.int d.m d.tm) (fC1 w.params q6 (.str m2.S tz))) 9),Yw n1 ms es d.i.toNat]) [2] rfl rfl) st5.dd st5.kk ?_;intro h7 hp7 S7 X7;rw [Xt];have S7':Has h7 (([(n1+5,rgO (k+1) (r - 1)),(n0+0,fC w.params n0 t0 n1 dl tt ttk q0 q1 (fC4 w.params q2 q3 q4 q5 (.int k (tk+0)) (.int d.i d.ti) (.int d.j d.tj) (.int d.m d.tm) (fC1 w.params q6 (.str m2.S tz))) 9),(ZZ n0 xs),(Yu n1),(XT dl dcs de)]++[(n1+d.i.toNat,listO ((ms d.i.toNat++[MC.mk m2 tz]).map MC.val) (es d.i.toNat+1))])++(NJ n1 ms es d.i.toNat++(hcs w.params (upd hs d.i.toNat s6)++(dcs.map DC.cell++E)))):=by
   rw [List.map_append];exact Has.re2 S7 [4,0,3,2,5,1] rfl
  have S8:=NI hi3 S7';have Y1:Ext (AL n0 n1 ls) h h1:=X1.to (aL R4 (aL qX aN));have Y4:=Y1.trans X4 fun a ha=>(nomatch ha);have Y5:=Y4.trans (X5.to (aL qX aN)) fun a ha=>.inl ha;have Y6:=Y5.trans (X6.to (by intro a ha;rw [List.mem_singleton.mp ha,sm2.l,C.l _ hi3];exact AL_l hi3)) fun a ha=>.inl ha;have Y7:=Y6.trans (X7.to (aL qX (aL (R3 hi3) aN))) fun a ha=>.inl ha;exact Hn h7 _ (upd hs d.i.toNat s6) (upd ms d.i.toNat (ms d.i.toNat++[MC.mk m2 tz])) (upd es d.i.toNat (es d.i.toNat+1)) q2 q3 q4 q5 q6 (.int k (tk+0)) (.int d.i d.ti) (.int d.j d.tj) (.int d.m d.tm) (.str m2.S tz) hp7 Y7 (CR.step (d:=d.d) C hi3 ok6 (sm6.x.trans sm2.x) (sm6.l.trans sm2.l) hv6 hm2ok hm2n) S8
end

def CV:CS->List D3->Prop
 | _,[]=>True
 | st,d::ds=>d.2.2<=(st.r d.2.1.toNat).length/\CV (cstep st d) ds
theorem CR.len{xs ls:Nat->Addr}{hs:Nat->HS}{ms:Nat->List MC}{st:CS}(C:CR xs ls hs ms st){p:Nat}(hp:p<3):(ms p).length=(st.r p).length:=by
 rw [←C.r p hp,List.length_map]
theorem CB.le{st:CS}{n:Nat}{c:Nat->Nat}(B:CB st n c){p:Nat}(hp:p<3):c p<=n:=by
 have:=B.s;have h:p=0\/p=1\/p=2:=lt3 (by assumption);rcases h with rfl | rfl | rfl<;>lia
section
variable{w:World}{A:Around}{g:Array GenState}{dr:Drawn}{os:OsState}{n0 t0 n1 t1:Nat}{dl:Addr}{tt:Int}{ttk q0 q1 de:Nat}{dcs:List DC}{xs ls:Nat->Addr}{E:List (Addr×Obj)}
theorem qp{R:Result->Shared->Prop}(rm:Room 120 A)(hl:dcs.length=4\/dcs.length=5)(hok:∀d∈dcs,d.Ok):
  ∀(todo done:List DC) {h:Heap} {tk:Nat} {hs:Nat->HS} {ms:Nat->List MC} {es:Nat->Nat} {st:CS} {c:Nat->Nat} {q2 q3 q4 q5 q6:Nat} {wt wi wj wm wl:Value},dcs=done++todo->Prog (PP w) h->CR xs ls hs ms st->CB st done.length c->CV st (todo.map DC.d)-> Has h ([(n1+5,rgO (done.length:Int) (todo.length:Int)),(Fp n0 w t0 n1 dl tt ttk q0 q1 q2 q3 q4 q5 wt wi wj wm q6 wl),(ZZ n0 xs),(Yu n1),(XT dl dcs de)]++(mcs n1 ms es++(hcs w.params hs++(dcs.map DC.cell++E))))->
   (∀h' tk' hs' ms' es' q2' q3' q4' q5' q6' wt' wi' wj' wm' wl',Prog (PP w) h'->Ext (AL n0 n1 ls) h h'->CR xs ls hs' ms' ((todo.map DC.d).foldl cstep st)->Has h' ([(n0+0,fC w.params n0 t0 n1 dl tt ttk q0 q1 (fC4 w.params q2' q3' q4' q5' wt' wi' wj' wm' (fC1 w.params q6' wl')) 9),(ZZ n0 xs),(Yu n1),(XT dl dcs de)]++(mcs n1 ms' es'++(hcs w.params hs'++(dcs.map DC.cell++E))))->R (.ok .next) ⟨h',g,dr,tk',os⟩)-> codeAny (model pw w) A (YJ (W1 w) (W2 w) w.params n0 t0 n1 t1 dl tt ttk) R ⟨h,g,dr,tk,os⟩
 | [],done,h,tk,hs,ms,es,st,c,q2,q3,q4,q5,q6,wt,wi,wj,wm,wl=>by
  intro hdc hp C B cv H Hn;have hw:=Jy (W1 w) (W2 w) w.params n0 t0 n1 t1 dl tt ttk;simp only [Prod.mk.injEq] at hw;refine Xi ?_;refine Xm (k:=120) [0] [1,2,3,4] [] ((QP _ ..).1.2.2.2.2 ..).sg rfl Xn rm hp H rfl rfl (Xf (lm:=[]) [0] rfl rfl) (Xg hw.1) trivial ?_;intro h1 hp1 S1 X1;have S1':Has h1 ([(n1+5,rgO (done.length:Int) 0)]++([(Fp n0 w t0 n1 dl tt ttk q0 q1 q2 q3 q4 q5 wt wi wj wm q6 wl),(ZZ n0 xs),(Yu n1),(XT dl dcs de)]++(mcs n1 ms es++(hcs w.params hs++(dcs.map DC.cell++E))))):=S1;exact Hn h1 _ hs ms es q2 q3 q4 q5 q6 wt wi wj wm wl hp1 (X1.to fun a ha=>(nomatch ha)) C S1'.right
 | d::todo,done,h,tk,hs,ms,es,st,c,q2,q3,q4,q5,q6,wt,wi,wj,wm,wl=>by
  intro hdc hp C B cv H Hn;have hm:d∈dcs:=by rw [hdc];exact List.mem_append_right _ (.head _)
  have hkk:(dcs.map DC.val)[(done.length:Int).toNat]? =some d.val:=by rw [Int.toNat_natCast,hdc,List.map_append,List.getElem?_append_right (by simp)];simp
  have hn:done.length<=4:=by
   have:=congrArg List.length hdc;rw [List.length_append,List.length_cons] at this;omega
  have hok':=hok d hm;have hi0:=hok'.i0;have hi3':=hok'.i3;have hj0:=hok'.j0;have hj3':=hok'.j3;have hi3:d.i.toNat<3:=by omega
  have hj3:d.j.toNat<3:=by omega
  have hv:=fun q (hq:q<3)=>TU (d:=d.d) B hi3 hj3 cv.1 hq;have hs3:=B.s;have hv0:=hv 0 (by decide);have hv1:=hv 1 (by decide);have hv2:=hv 2 (by decide);refine MY rm hp hm hok' (by omega) (by omega) hkk (by rw [List.length_cons];omega) C (by rw [C.len hj3];exact cv.1) (by lia) (fun p hp=>by rw [C.len hp,B.l p hp];have:=B.le hp;lia) H ?_;intro h1 tk1 hs1 ms1 es1 q2' q3' q4' q5' q6' wt' wi' wj' wm' wl' hp1 X1 C1 S1;have e1:((done.length:Int)+1)=((done++[d]).length:Int):=by rw [List.length_append,List.length_singleton];rfl
  have e2:(((d::todo).length:Int) - 1)=(todo.length:Int):=by rw [List.length_cons];lia
  rw [e1,e2] at S1;have B1:=B.step (d:=d.d) hi3 hj3 cv.1;refine qp rm hl hok todo (done++[d]) (by rw [hdc,List.append_assoc];rfl) hp1 C1 (by rw [List.length_append,List.length_singleton];exact B1) cv.2 S1 ?_;intro h2 tk2 hs2 ms2 es2 q2'' q3'' q4'' q5'' q6'' wt'' wi'' wj'' wm'' wl'' hp2 X2 C2 S2;exact Hn h2 tk2 hs2 ms2 es2 q2'' q3'' q4'' q5'' q6'' wt'' wi'' wj'' wm'' wl'' hp2 (X1.trans X2 fun a ha=>.inl ha) C2 S2
end

theorem GQ{h:Heap}{c:Addr×Obj}{X M E:List (Addr×Obj)}(H:Has h (c::(X++(M++E)))):Has h (X++((M++[c])++E)):=by
 refine H.perm ?_;rw [List.append_assoc];show ([c]++(X++(M++E))).Perm (X++(M++([c]++E)));exact (List.perm_append_comm_assoc [c] X _).trans (List.Perm.append_left X (List.perm_append_comm_assoc [c] M E))
noncomputable def MC.v3(c:MC):V3:=((c.m.n 0:Int) - 1,(c.m.n 1:Int) - 1,(c.m.n 2:Int) - 1)
theorem Ja(b1 b2:Bool)(P:Params)(n0 t0 n1 t1 n2 t2 n3 t3:Nat)(dl:Addr)(tt:Int)(ttk:Nat):(weightF (ZD b1 b2 P n0 t0 n1 t1 n2 t2 n3 t3 dl tt ttk),quietF (ZD b1 b2 P n0 t0 n1 t1 n2 t2 n3 t3 dl tt ttk))=(0,true):=by cases b1<;>cases b2<;>kernel_rfl
theorem AI{vs:List Value}(h:vs.length=0):vs=[]:=List.length_eq_zero_iff.mp h
section
variable{w:World}{A:Around}{g:Array GenState}{dr:Drawn}{os:OsState}{n0 t0 n1 t1 n2 t2 n3 t3:Nat}{dl:Addr}{tt:Int}{ttk:Nat}{ra:Addr}{re:Nat}{cs:List MC}{E:List (Addr×Obj)}
abbrev ZG ra(cs:List MC) re:=((ra,listO (cs.map MC.val) re):Xp)
abbrev Dl(h2:Heap)(c:MC) tk2:=((h2.objs.size+1,listO [.int ((c.m.n 0:Nat) - 1:Int) (tk2+3),.int ((c.m.n 1:Nat) - 1:Int) (tk2+7),.int ((c.m.n 2:Nat) - 1:Int) (tk2+11)] 3):Xp)
abbrev Ut a0(c:MC) t00 s00:=((a0,listO [.str (Xz 0 c.m.up) t00,.int (c.m.n 0:Nat) s00] 0):Xp)
abbrev Us a1(c:MC) t01 s01:=((a1,listO [.str (Xz 1 c.m.up) t01,.int (c.m.n 1:Nat) s01] 0):Xp)
abbrev Ur a2(c:MC) t02 s02:=((a2,listO [.str (Xz 2 c.m.up) t02,.int (c.m.n 2:Nat) s02] 0):Xp)
abbrev Qy n3(ks:List CKc) ve:=((n3+1,listO (ks.map CKc.val) ve):Xp)
abbrev Dk r a0 a1 a2(c:MC) t00 s00 t01 s01 t02 s02 n3(ks:List CKc) ve:=([(Z4 r a0 a1 a2),(Ut a0 c t00 s00),(Us a1 c t01 s01),(Ur a2 c t02 s02),(Qy n3 ks ve)]:ZQ)
theorem M3{R:Result->Shared->Prop}{h:Heap}{tk k ve:Nat}{ks:List CKc}{c:MC}(rm:Room 40 A)(hp:Prog (PP w) h)(hk:(cs.map MC.val)[k]? =some c.val)(hc:c.m.Ok)(hz:ks.length<=100) (H:Has h ([(n3+0,itO ra (k:Int)),(n3+2,dctO [] 0),(ZG ra cs re),(Qy n3 ks ve)]++(ks.map CKc.cell++E))) (Hn:∀h' tk' kc ve' q0' w0',Prog (PP w) h'->Ext [n3+0,n3+2,n3+1] h h'->h.objs.size<=CKc.a kc->kc.x=c.v3->Has h' ([(n3+0,itO ra ((k:Int)+1)),(n3+2,dctO [XY w.params q0' w0'] 1),(ZG ra cs re),(n3+1,listO ((ks++[kc]).map CKc.val) ve')]++((ks++[kc]).map CKc.cell++E))->codeAny (model pw w) A (ZD (W1 w) (W2 w) w.params n0 t0 n1 t1 n2 t2 n3 t3 dl tt ttk) R ⟨h',g,dr,tk',os⟩): codeAny (model pw w) A (ZD (W1 w) (W2 w) w.params n0 t0 n1 t1 n2 t2 n3 t3 dl tt ttk) R ⟨h,g,dr,tk,os⟩:=by
 have hw:=Ja (W1 w) (W2 w) w.params n0 t0 n1 t1 n2 t2 n3 t3 dl tt ttk;simp only [Prod.mk.injEq] at hw;have hk':(cs.map MC.val)[k]? =some (.str c.m.S c.u):=hk;refine Xi ?_;refine Xh (k:=20) [0,1,2] [3] [n3+0,n3+2] ((Zd _ ..).2.1 _ ..).1.sg rfl (ob (Ya (k:=k) hk') Xn) rm hp H rfl rfl (Xf (lm:=[(n3+0,itO ra (k:Int)),(n3+2,dctO [] 0)]) [2] rfl rfl) (Xg hw.1) trivial ?_;intro h1 hp1 S1 X1 _ st1;refine qf (st1.rm.le (Nat.zero_le _)) hp1 hc.p hc.a hc.b hc.c hc.s ?_;intro h2 tk2 r a0 a1 a2 t00 t01 t02 s00 s01 s02 hp2 X2 hr h0a h1a h2a N;have S2:=S1.new X2 N (aL hr (aL h0a (aL h1a (aL h2a aN))));have S2':Has h2 ([(Z4 r a0 a1 a2),(Ut a0 c t00 s00),(Us a1 c t01 s01),(Ur a2 c t02 s02),(n3+0,itO ra ((k:Int)+1)),(n3+2,dctO [XY w.params (tk+0) (.str c.m.S c.u)] 1),(ZG ra cs re),(Qy n3 ks ve)]++(ks.map CKc.cell++E)):=S2;refine Xy [0,1,2,3,7] [4,5,6] [r,a0,a1,a2,n3+1] (((Zd _ ..).2.1 _ ..).2 ..).sg rfl
  (ob (XI (by have:sizeLine=16777216:=rfl;rw [List.length_map];omega)) (ob (XI (by have:sizeLine=16777216:=rfl;rw [this];exact Nat.le_of_ble_eq_true rfl)) (ob XK (ob (XI (by have:sizeLine=16777216:=rfl;rw [this];exact Nat.le_of_ble_eq_true rfl)) (ob XK (ob (XI (by have:sizeLine=16777216:=rfl;rw [this];exact Nat.le_of_ble_eq_true rfl)) (ob XK Xn))))))) (by rw [Xk];exact hw.2) rm hp2 S2' rfl rfl
  (Xf (lm:=(Dk r a0 a1 a2 c t00 s00 t01 s01 t02 s02 n3 ks ve)) [] rfl rfl) st1.dd st1.kk ?_
 intro h3 hp3 S3 X3;rw [Xt];obtain ⟨kc,hkc⟩:∃kc:CKc,kc=⟨h2.objs.size+1,c.v3,tk2+3,tk2+7,tk2+11,3⟩:=⟨_,rfl⟩;have S4:Has h3 ((Dl h2 c tk2)::([(n3+0,itO ra ((k:Int)+1)),(n3+2,dctO [XY w.params (tk+0) (.str c.m.S c.u)] 1),(ZG ra cs re),(n3+1,listO (ks.map CKc.val++[.ref (h2.objs.size+1)]) (ve+1))]++(ks.map CKc.cell++E))):=Has.re2 S3 [0,2,3,4,1] rfl;have S5:=GQ S4;refine Hn h3 _ kc (ve+1) (tk+0) (.str c.m.S c.u) hp3 ?_ ?_ ?_ ?_
 ·have Y2:Ext [n3+0,n3+2,n3+1] h h2:=(X1.to (aL (.head _) (aL (.tail _ (.head _)) aN))).trans X2 fun a ha=>(nomatch ha);refine Y2.trans X3 ?_;have h01:=X1.size;exact aL (.inr (Nat.le_trans h01 hr)) (aL (.inr (Nat.le_trans h01 h0a)) (aL (.inr (Nat.le_trans h01 h1a)) (aL (.inr (Nat.le_trans h01 h2a)) (aL (.inl (.tail _ (.tail _ (.head _)))) aN))))
 ·rw [hkc];exact Nat.le_trans X1.size (Nat.le_trans X2.size (lar))
 ·rw [hkc]
 ·rw [hkc,List.map_append,List.map_append];exact S5
theorem MZ{R:Result->Shared->Prop}{h:Heap}{tk k ve:Nat}{ks:List CKc}{c:MC}{q0:Nat}{w0:Value}(rm:Room 40 A)(hp:Prog (PP w) h)(hk:(cs.map MC.val)[k]? =some c.val)(hc:c.m.Ok)(hz:ks.length<=100) (H:Has h ([(n3+0,itO ra (k:Int)),(n3+2,dctO [XY w.params q0 w0] 1),(ZG ra cs re),(Qy n3 ks ve)]++(ks.map CKc.cell++E))) (Hn:∀h' tk' kc ve' q0' w0',Prog (PP w) h'->Ext [n3+0,n3+2,n3+1] h h'->h.objs.size<=CKc.a kc->kc.x=c.v3->Has h' ([(n3+0,itO ra ((k:Int)+1)),(n3+2,dctO [XY w.params q0' w0'] 1),(ZG ra cs re),(n3+1,listO ((ks++[kc]).map CKc.val) ve')]++((ks++[kc]).map CKc.cell++E))->codeAny (model pw w) A (ZD (W1 w) (W2 w) w.params n0 t0 n1 t1 n2 t2 n3 t3 dl tt ttk) R ⟨h',g,dr,tk',os⟩): codeAny (model pw w) A (ZD (W1 w) (W2 w) w.params n0 t0 n1 t1 n2 t2 n3 t3 dl tt ttk) R ⟨h,g,dr,tk,os⟩:=by
 have hw:=Ja (W1 w) (W2 w) w.params n0 t0 n1 t1 n2 t2 n3 t3 dl tt ttk;simp only [Prod.mk.injEq] at hw;have hk':(cs.map MC.val)[k]? =some (.str c.m.S c.u):=hk;refine Xi ?_;refine Xh (k:=20) [0,1,2] [3] [n3+0,n3+2] ((Zd _ ..).2.2.1 _ ..).1.sg rfl (ob (Ya (k:=k) hk') Xn) rm hp H rfl rfl (Xf (lm:=[(n3+0,itO ra (k:Int)),(n3+2,dctO [XY w.params q0 w0] 1)]) [2] rfl rfl) (Xg hw.1) trivial ?_;intro h1 hp1 S1 X1 _ st1;refine qf (st1.rm.le (Nat.zero_le _)) hp1 hc.p hc.a hc.b hc.c hc.s ?_;intro h2 tk2 r a0 a1 a2 t00 t01 t02 s00 s01 s02 hp2 X2 hr h0a h1a h2a N;have S2:=S1.new X2 N (aL hr (aL h0a (aL h1a (aL h2a aN))));have S2':Has h2 ([(Z4 r a0 a1 a2),(Ut a0 c t00 s00),(Us a1 c t01 s01),(Ur a2 c t02 s02),(n3+0,itO ra ((k:Int)+1)),(n3+2,dctO [XY w.params q0 (.str c.m.S c.u)] 1),(ZG ra cs re),(Qy n3 ks ve)]++(ks.map CKc.cell++E)):=S2;refine Xy [0,1,2,3,7] [4,5,6] [r,a0,a1,a2,n3+1] (((Zd _ ..).2.2.1 _ ..).2 ..).sg rfl
  (ob (XI (by have:sizeLine=16777216:=rfl;rw [List.length_map];omega)) (ob (XI (by have:sizeLine=16777216:=rfl;rw [this];exact Nat.le_of_ble_eq_true rfl)) (ob XK (ob (XI (by have:sizeLine=16777216:=rfl;rw [this];exact Nat.le_of_ble_eq_true rfl)) (ob XK (ob (XI (by have:sizeLine=16777216:=rfl;rw [this];exact Nat.le_of_ble_eq_true rfl)) (ob XK Xn))))))) (by rw [Xk];exact hw.2) rm hp2 S2' rfl rfl
  (Xf (lm:=(Dk r a0 a1 a2 c t00 s00 t01 s01 t02 s02 n3 ks ve)) [] rfl rfl) st1.dd st1.kk ?_
 intro h3 hp3 S3 X3;rw [Xt];obtain ⟨kc,hkc⟩:∃kc:CKc,kc=⟨h2.objs.size+1,c.v3,tk2+3,tk2+7,tk2+11,3⟩:=⟨_,rfl⟩;have S4:Has h3 ((Dl h2 c tk2)::([(n3+0,itO ra ((k:Int)+1)),(n3+2,dctO [XY w.params q0 (.str c.m.S c.u)] 1),(ZG ra cs re),(n3+1,listO (ks.map CKc.val++[.ref (h2.objs.size+1)]) (ve+1))]++(ks.map CKc.cell++E))):=Has.re2 S3 [0,2,3,4,1] rfl;have S5:=GQ S4;refine Hn h3 _ kc (ve+1) q0 (.str c.m.S c.u) hp3 ?_ ?_ ?_ ?_
 ·have Y2:Ext [n3+0,n3+2,n3+1] h h2:=(X1.to (aL (.head _) (aL (.tail _ (.head _)) aN))).trans X2 fun a ha=>(nomatch ha);refine Y2.trans X3 ?_;have h01:=X1.size;exact aL (.inr (Nat.le_trans h01 hr)) (aL (.inr (Nat.le_trans h01 h0a)) (aL (.inr (Nat.le_trans h01 h1a)) (aL (.inr (Nat.le_trans h01 h2a)) (aL (.inl (.tail _ (.tail _ (.head _)))) aN))))
 ·rw [hkc];exact Nat.le_trans X1.size (Nat.le_trans X2.size (lar))
 ·rw [hkc]
 ·rw [hkc,List.map_append,List.map_append];exact S5
theorem GH{R:Result->Shared->Prop}{h:Heap}{tk ve:Nat}{ks:List CKc}{dob:Obj}(rm:Room 40 A)(hl5:cs.length<=5)(hp:Prog (PP w) h) (H:Has h ([(n3+0,itO ra (cs.length:Nat)),(n3+2,dob),(ra,listO (cs.map MC.val) re),(n3+1,listO (ks.map CKc.val) ve)]++(ks.map CKc.cell++E))) (Hn:(∀h' tk',Prog (PP w) h'->Ext [n3+0,n3+2,n3+1] h h'->Has h' ([(n3+2,dob),(ra,listO (cs.map MC.val) re),(n3+1,listO (ks.map CKc.val) ve)]++(ks.map CKc.cell++E))->R (.ok .next) ⟨h',g,dr,tk',os⟩)):codeAny (model pw w) A (ZD (W1 w) (W2 w) w.params n0 t0 n1 t1 n2 t2 n3 t3 dl tt ttk) R ⟨h,g,dr,tk,os⟩:=by
 have hw:=Ja (W1 w) (W2 w) w.params n0 t0 n1 t1 n2 t2 n3 t3 dl tt ttk;simp only [Prod.mk.injEq] at hw;have hlen:(cs.map MC.val).length=cs.length:=List.length_map ..;refine Xi ?_;have hl6:cs.length=0\/cs.length=1\/cs.length=2\/cs.length=3\/cs.length=4\/cs.length=5:=by lia
 rcases hl6 with hl | hl | hl | hl | hl | hl
 ·have hds:=AI (hlen.trans hl);rw [hl] at H;rw [hds] at H;refine Xm (k:=0) [0,2] [1,3] [n3+0] ((Zd _ ..).2.2.2.1 _ ..).sg rfl Xn (rm.le (Nat.zero_le _)) hp H rfl rfl (Xf (lm:=[(n3+0,itO ra (0:Nat))]) [1] rfl rfl) (Xg hw.1) trivial ?_;intro h1 hp1 S1 X1;refine Hn h1 _ hp1 (X1.to fun a ha=>by rw [List.mem_singleton.mp ha];exact .head _) ?_;rw [hds];exact Has.re2 S1 [2,1,3] rfl
 ·obtain ⟨a0,hds⟩:=Co (hlen.trans hl);rw [hl] at H;rw [hds] at H;refine Xm (k:=0) [0,2] [1,3] [n3+0] ((Zd _ ..).2.2.2.2.1 _ ..).sg rfl Xn (rm.le (Nat.zero_le _)) hp H rfl rfl (Xf (lm:=[(n3+0,itO ra (1:Nat))]) [1] rfl rfl) (Xg hw.1) trivial ?_;intro h1 hp1 S1 X1;refine Hn h1 _ hp1 (X1.to fun a ha=>by rw [List.mem_singleton.mp ha];exact .head _) ?_;rw [hds];exact Has.re2 S1 [2,1,3] rfl
 ·obtain ⟨a0,a1,hds⟩:=Cn (hlen.trans hl);rw [hl] at H;rw [hds] at H;refine Xm (k:=0) [0,2] [1,3] [n3+0] ((Zd _ ..).2.2.2.2.2.1 _ ..).sg rfl Xn (rm.le (Nat.zero_le _)) hp H rfl rfl (Xf (lm:=[(n3+0,itO ra (2:Nat))]) [1] rfl rfl) (Xg hw.1) trivial ?_;intro h1 hp1 S1 X1;refine Hn h1 _ hp1 (X1.to fun a ha=>by rw [List.mem_singleton.mp ha];exact .head _) ?_;rw [hds];exact Has.re2 S1 [2,1,3] rfl
 ·obtain ⟨a0,a1,a2,hds⟩:=Eb (hlen.trans hl);rw [hl] at H;rw [hds] at H;refine Xm (k:=0) [0,2] [1,3] [n3+0] ((Zd _ ..).2.2.2.2.2.2.1 _ ..).sg rfl Xn (rm.le (Nat.zero_le _)) hp H rfl rfl (Xf (lm:=[(n3+0,itO ra (3:Nat))]) [1] rfl rfl) (Xg hw.1) trivial ?_;intro h1 hp1 S1 X1;refine Hn h1 _ hp1 (X1.to fun a ha=>by rw [List.mem_singleton.mp ha];exact .head _) ?_;rw [hds];exact Has.re2 S1 [2,1,3] rfl
 ·obtain ⟨a0,a1,a2,a3,hds⟩:=Mz (hlen.trans hl);rw [hl] at H;rw [hds] at H;refine Xm (k:=0) [0,2] [1,3] [n3+0] ((Zd _ ..).2.2.2.2.2.2.2.1 _ ..).sg rfl Xn (rm.le (Nat.zero_le _)) hp H rfl rfl (Xf (lm:=[(n3+0,itO ra (4:Nat))]) [1] rfl rfl) (Xg hw.1) trivial ?_;intro h1 hp1 S1 X1;refine Hn h1 _ hp1 (X1.to fun a ha=>by rw [List.mem_singleton.mp ha];exact .head _) ?_;rw [hds];exact Has.re2 S1 [2,1,3] rfl
 ·obtain ⟨a0,a1,a2,a3,a4,hds⟩:=Bi (hlen.trans hl);rw [hl] at H;rw [hds] at H;refine Xm (k:=0) [0,2] [1,3] [n3+0] ((Zd _ ..).2.2.2.2.2.2.2.2 _ ..).sg rfl Xn (rm.le (Nat.zero_le _)) hp H rfl rfl (Xf (lm:=[(n3+0,itO ra (5:Nat))]) [1] rfl rfl) (Xg hw.1) trivial ?_;intro h1 hp1 S1 X1;refine Hn h1 _ hp1 (X1.to fun a ha=>by rw [List.mem_singleton.mp ha];exact .head _) ?_;rw [hds];exact Has.re2 S1 [2,1,3] rfl
theorem QN{R:Result->Shared->Prop}(rm:Room 40 A)(hl5:cs.length<=5)(hok:∀c∈cs,c.m.Ok):
  ∀(todo done:List MC) {h:Heap} {tk ve:Nat} {ks:List CKc} {q0:Nat} {w0:Value},cs=done++todo->Prog (PP w) h->ks.length=done.length->Has h ([(n3+0,itO ra (done.length:Nat)),(n3+2,dctO [XY w.params q0 w0] 1),(ZG ra cs re),(Qy n3 ks ve)]++(ks.map CKc.cell++E))->
   (∀h' tk' (kl:List CKc) ve' q0' w0',Prog (PP w) h'->Ext [n3+0,n3+2,n3+1] h h'->(∀k∈kl,h.objs.size<=CKc.a k)->kl.map CKc.x=todo.map MC.v3->Has h' ([(n3+2,dctO [XY w.params q0' w0'] 1),(ZG ra cs re),(n3+1,listO ((ks++kl).map CKc.val) ve')]++((ks++kl).map CKc.cell++E))->R (.ok .next) ⟨h',g,dr,tk',os⟩)->codeAny (model pw w) A (ZD (W1 w) (W2 w) w.params n0 t0 n1 t1 n2 t2 n3 t3 dl tt ttk) R ⟨h,g,dr,tk,os⟩
 | [],done,h,tk,ve,ks,q0,w0=>by
  intro hdc hp hkl H Hn;have hlk:done.length=cs.length:=by rw [hdc,List.append_nil]
  rw [hlk] at H;refine GH rm hl5 hp H ?_;intro h1 tk1 hp1 X1 S1;refine Hn h1 tk1 [] ve q0 w0 hp1 X1 (fun k hk=>(nomatch hk)) rfl ?_;rw [List.append_nil];exact S1
 | c::todo,done,h,tk,ve,ks,q0,w0=>by
  intro hdc hp hkl H Hn;have hm:c∈cs:=by rw [hdc];exact List.mem_append_right _ (.head _)
  have hkk:(cs.map MC.val)[done.length]? =some c.val:=by rw [hdc,List.map_append,List.getElem?_append_right (by simp)];simp
  have hn:done.length<=5:=by
   have:=congrArg List.length hdc;rw [List.length_append,List.length_cons] at this;omega
  refine MZ rm hp hkk (hok c hm) (by omega) H ?_;intro h1 tk1 kc ve1 q0' w0' hp1 X1 hkc hkx S1;have e1:((done.length:Int)+1)=((done++[c]).length:Nat):=by rw [List.length_append,List.length_singleton];rfl
  rw [e1] at S1;refine QN rm hl5 hok todo (done++[c]) (by rw [hdc,List.append_assoc];rfl) hp1 (by rw [List.length_append,List.length_append,hkl];rfl) S1 ?_;intro h2 tk2 kl ve2 q0'' w0'' hp2 X2 hkn hkm S2;rw [List.append_assoc] at S2;refine Hn h2 tk2 (kc::kl) ve2 q0'' w0'' hp2 (X1.trans X2 fun a ha=>.inl ha) ?_ ?_ S2
  ·intro k hk;rcases List.mem_cons.mp hk with h3 | h3
   ·rw [h3];exact hkc
   ·exact Nat.le_trans X1.size (hkn k h3)
  ·rw [List.map_cons,List.map_cons,hkx,hkm]
theorem yQ{R:Result->Shared->Prop}{h:Heap}{tk:Nat}(rm:Room 40 A)(hl5:cs.length<=5)(hok:∀c∈cs,c.m.Ok)(hp:Prog (PP w) h) (H:Has h ([(n3+0,itO ra 0),(n3+2,dctO [] 0),(ZG ra cs re),(n3+1,listO [] 0)]++E)) (Hn:∀h' tk' (ks:List CKc) ve' dob,Prog (PP w) h'->Ext [n3+0,n3+2,n3+1] h h'->(∀k∈ks,h.objs.size<=CKc.a k)->ks.map CKc.x=cs.map MC.v3->(dob=dctO [] 0\/∃q v,dob=dctO [XY w.params q v] 1)->Has h' ([(n3+2,dob),(ZG ra cs re),(n3+1,listO (ks.map CKc.val) ve')]++(ks.map CKc.cell++E))->R (.ok .next) ⟨h',g,dr,tk',os⟩): codeAny (model pw w) A (J8 (W1 w) (W2 w) w.params n0 t0 n1 t1 n2 t2 n3 t3 dl tt ttk) R ⟨h,g,dr,tk,os⟩:=by
 have hw:=Ja (W1 w) (W2 w) w.params n0 t0 n1 t1 n2 t2 n3 t3 dl tt ttk;have hw0:=BL (W1 w) (W2 w) w.params n0 t0 n1 t1 n2 t2 n3 t3 dl tt ttk [] 0;simp only [Prod.mk.injEq] at hw hw0;refine Xi ?_;refine Xy [0] [1,2,3] [] ((Zd _ ..).1 ..).sg rfl Xn (by rw [Xk];exact hw.2) rm hp H rfl rfl (Xf (lm:=[]) [0] rfl rfl) (Xg hw0.1) trivial ?_;intro h1 hp1 S1 X1;rw [Xt];have X1':Ext [n3+0,n3+2,n3+1] h h1:=X1.to fun a ha=>(nomatch ha);cases hcs:cs with
 | nil=>
  refine GH (ks:=[]) (ve:=0) rm hl5 hp1 (by rw [hcs];rw [hcs] at S1;exact S1) ?_;intro h2 tk2 hp2 X2 S2;rw [hcs] at S2;rw [hcs] at Hn;exact Hn h2 tk2 [] 0 _ hp2 (X1'.trans X2 fun a ha=>.inl ha) (fun k hk=>(nomatch hk)) rfl (.inl rfl) S2
 | cons c rest=>
  have hm:c∈cs:=by rw [hcs];exact .head _
  have hkk:(cs.map MC.val)[0]? =some c.val:=by rw [hcs];rfl
  refine M3 (k:=0) (ks:=[]) (ve:=0) rm hp1 hkk (hok c hm) (by decide) S1 ?_;intro h2 tk2 kc ve2 q0 w0 hp2 X2 hkc hkx S2;refine QN rm hl5 hok rest [c] hcs hp2 rfl S2 ?_;intro h3 tk3 kl ve3 q0' w0' hp3 X3 hkn hkm S3;refine Hn h3 tk3 (kc::kl) ve3 _ hp3 (X1'.trans (X2.trans X3 fun a ha=>.inl ha) fun a ha=>.inl ha) ?_ ?_ (.inr ⟨q0',w0',rfl⟩) S3
  ·intro k hk;rcases List.mem_cons.mp hk with h4 | h4
   ·rw [h4];exact Nat.le_trans X1.size hkc
   ·exact Nat.le_trans X1.size (Nat.le_trans X2.size (hkn k h4))
  ·rw [hcs,List.map_cons,List.map_cons,hkx,hkm]
end

theorem Stop.cast{cm:Bool}{k:Nat}{A:Around}{o o':Out}(e:o.res=o'.res)(st:Stop cm k A o):Stop cm k A o':=by
 obtain ⟨a,b,c⟩:=st;rw [e] at a b c;exact ⟨a,b,c⟩
section
variable{w:World}{A:Around}{g:Array GenState}{dr:Drawn}{os:OsState}{n0 t0 n1 t1 n2 t2:Nat}{dl:Addr}{tt:Int}{ttk:Nat}{ms:Nat->List MC}{es:Nat->Nat}{E:List (Addr×Obj)}
abbrev Z2 n1(ms:Nat->List MC)(es:Nat->Nat):=((n1+0,listO ((ms 0).map MC.val) (es 0)):Xp)
abbrev Z1 n1(ms:Nat->List MC)(es:Nat->Nat):=((n1+1,listO ((ms 1).map MC.val) (es 1)):Xp)
abbrev Z0 n1(ms:Nat->List MC)(es:Nat->Nat):=((n1+2,listO ((ms 2).map MC.val) (es 2)):Xp)
abbrev Jx(h:Heap)(ks0:List CKc) ve0:=((h.objs.size+1,listO (ks0.map CKc.val) ve0):Xp)
abbrev Gh n2(h:Heap)(h2:Heap):=((n2+1,listO [.ref (h.objs.size+1),.ref (h2.objs.size+1)] 2):Xp)
abbrev y4 n2(w:World) tk n1:=((n2+2,dctO [kn21 w.params (tk+0) (.ref (n1+2))] 1):Xp)
abbrev Ge n2(w:World) tk n1:=((n2+2,dctO [kn21 w.params (tk+0) (.ref (n1+1))] 1):Xp)
abbrev y3(h2:Heap)(ks1:List CKc) ve1:=((h2.objs.size+1,listO (ks1.map CKc.val) ve1):Xp)
abbrev qP n2(h:Heap):=((n2+1,listO [.ref (h.objs.size+1)] 1):Xp)
abbrev QH n2(w:World) tk n1:=((n2+2,dctO [kn21 w.params (tk+0) (.ref (n1+0))] 1):Xp)
abbrev qN(h2:Heap):Xp:=(h2.objs.size+1,listO [] 0)
abbrev Go(h2:Heap):Xp:=(h2.objs.size+2,dctO [] 0)
abbrev Gn(h4:Heap):Xp:=(h4.objs.size+2,dctO [] 0)
abbrev Vd(h4:Heap)(ks2:List CKc) ve2:=((h4.objs.size+1,listO (ks2.map CKc.val) ve2):Xp)
abbrev Vb(h4:Heap):Xp:=(h4.objs.size+1,listO [] 0)
abbrev N9(h:Heap):Xp:=(h.objs.size+2,dctO [] 0)
theorem QM{R:Result->Shared->Prop}{h:Heap}{tk:Nat}(rm:Room 60 A)(hp:Prog (PP w) h)(hok:∀p,p<3->∀c∈ms p,c.m.Ok)(hl:∀p,p<3->(ms p).length<=5) (H:Has h ([(n2+2,dctO [] 0),(n2+1,listO [] 0),(n2+0,itO (n1+3) 0),(Yu n1),(Z2 n1 ms es),(Z1 n1 ms es),(Z0 n1 ms es)]++E)) (Hn:∀h' tk' r0 r1 r2 f0 f1 f2 (ks0 ks1 ks2:List CKc) qr vr,Prog (PP w) h'->Ext [n2+2,n2+1,n2+0] h h'->ks0.map CKc.x=(ms 0).map MC.v3->ks1.map CKc.x=(ms 1).map MC.v3->ks2.map CKc.x=(ms 2).map MC.v3-> Has h' ([(n2+2,dctO [kn21 w.params qr vr] 1),(n2+1,listO [.ref r0,.ref r1,.ref r2] 3),(Zi r0 ks0 f0),(Zh r1 ks1 f1),(Zg r2 ks2 f2)]++(ks0.map CKc.cell++(ks1.map CKc.cell++(ks2.map CKc.cell++E))))->R (.ok .next) ⟨h',g,dr,tk',os⟩): codeAny (model pw w) A (VC (W1 w) (W2 w) w.params n0 t0 n1 t1 n2 t2 dl tt ttk) R ⟨h,g,dr,tk,os⟩:=by
 have hw:=MW (W1 w) (W2 w) w.params n0 t0 n1 t1 n2 t2 dl tt ttk 0 .none [] 0 0 0 0 0 0 .none .none .none .none .none;simp only [Prod.mk.injEq] at hw;have fr:∀{h':Heap},h.objs.size<=h'.objs.size->∀a∈[h'.objs.size+0,h'.objs.size+2,h'.objs.size+1],h.objs.size<=a:=by
  intro h' X;exact aL (Nat.le_trans X (lar)) (aL (Nat.le_trans X (lar)) (aL (Nat.le_trans X (lar)) aN))
 have fr4:∀{h':Heap},h.objs.size<=h'.objs.size->∀a∈[h'.objs.size+2,n2+2,n2+1,n2+0],a∈[n2+2,n2+1,n2+0]\/h.objs.size<=a:=by
  intro h' X a ha;rcases List.mem_cons.mp ha with h1 | h1
  ·rw [h1];exact .inr (Nat.le_trans X (lar))
  ·exact .inl h1
 refine Xi ?_;refine Xh (k:=40) [0,1,2,3,4] [5,6] [n2+2,n2+1,n2+0] (GJ _ ..).1.sg rfl Xn rm hp H rfl rfl (Xf (lm:=[(n2+2,dctO [] 0),(n2+1,listO [] 0),(n2+0,itO (n1+3) 0)]) [6,7] rfl rfl) (Xg hw.1) trivial ?_;intro h1 hp1 S1 X1 _ st1;have Y1:=X1;have T1:Has h1 ([(h.objs.size+0,itO (n1+0) 0),(N9 h),(Z2 n1 ms es),(h.objs.size+1,listO [] 0)]++([(QH n2 w tk n1),(n2+1,listO [] 0),(n2+0,itO (n1+3) 1),(Yu n1),(Z1 n1 ms es),(Z0 n1 ms es)]++E)):=Has.re (l:=[(N9 h),(h.objs.size+1,listO [] 0),(h.objs.size+0,itO (n1+0) 0),(QH n2 w tk n1),(n2+1,listO [] 0),(n2+0,itO (n1+3) 1),(Yu n1),(Z2 n1 ms es),(Z1 n1 ms es),(Z0 n1 ms es)]) (l':=[(h.objs.size+0,itO (n1+0) 0),(N9 h),(Z2 n1 ms es),(h.objs.size+1,listO [] 0),(QH n2 w tk n1),(n2+1,listO [] 0),(n2+0,itO (n1+3) 1),(Yu n1),(Z1 n1 ms es),(Z0 n1 ms es)]) S1 [2,0,7,1,3,4,5,6,8,9] rfl;refine yQ (t3:=tk) st1.rm (hl 0 (by decide)) (hok 0 (by decide)) hp1 T1 ?_;intro h2 tk2 ks0 ve0 dob0 hp2 X2 hkn0 hkm0 hdob0 S2;have Y2:=Y1.trans X2 fun a ha=>.inr (fr (Nat.le_refl _) a ha);have T2:Has h2 ([(h.objs.size+2,dob0),(Z2 n1 ms es),(Jx h ks0 ve0),(QH n2 w tk n1),(n2+1,listO [] 0),(n2+0,itO (n1+3) 1),(Yu n1),(Z1 n1 ms es),(Z0 n1 ms es)]++(ks0.map CKc.cell++E)):=Has.swap S2;suffices key:∀h3,Prog (PP w) h3->Has h3 ([(Go h2),(qN h2),(h2.objs.size+0,itO (n1+1) 0),(Ge n2 w tk n1),(qP n2 h),(n2+0,itO (n1+3) 2),(Yu n1),(Z1 n1 ms es)]++([(Z2 n1 ms es),(Jx h ks0 ve0),(Z0 n1 ms es)]++(ks0.map CKc.cell++E)))->Ext [h.objs.size+2,n2+2,n2+1,n2+0] h2 h3->Stop true 40 A (cloQ0M (W1 w) (W2 w) w.params n0 t0 n1 t1 n2 t2 h.objs.size tk h2.objs.size tk2 dl tt ttk ((ms 0).map MC.val) (es 0) ((ms 1).map MC.val) (es 1) 0 .none)-> codeAny (model pw w) ((ar true A (cloQ0M (W1 w) (W2 w) w.params n0 t0 n1 t1 n2 t2 h.objs.size tk h2.objs.size tk2 dl tt ttk ((ms 0).map MC.val) (es 0) ((ms 1).map MC.val) (es 1) 0 .none).res.K (cloQ0M (W1 w) (W2 w) w.params n0 t0 n1 t1 n2 t2 h.objs.size tk h2.objs.size tk2 dl tt ttk ((ms 0).map MC.val) (es 0) ((ms 1).map MC.val) (es 1) 0 .none).res.c).mark none) (J8 (W1 w) (W2 w) w.params n0 t0 n1 t1 n2 t2 h2.objs.size tk2 dl tt ttk) (fun r s'=>Goes true (model pw w) A (qOf R) (eOf R) (cloQ0M (W1 w) (W2 w) w.params n0 t0 n1 t1 n2 t2 h.objs.size tk h2.objs.size tk2 dl tt ttk ((ms 0).map MC.val) (es 0) ((ms 1).map MC.val) (es 1) 0 .none).res.K (cloQ0M (W1 w) (W2 w) w.params n0 t0 n1 t1 n2 t2 h.objs.size tk h2.objs.size tk2 dl tt ttk ((ms 0).map MC.val) (es 0) ((ms 1).map MC.val) (es 1) 0 .none).res.c ((cloQ0M (W1 w) (W2 w) w.params n0 t0 n1 t1 n2 t2 h.objs.size tk h2.objs.size tk2 dl tt ttk ((ms 0).map MC.val) (es 0) ((ms 1).map MC.val) (es 1) 0 .none).res.k r) s') ⟨h3,g,dr,tk2+1,os⟩ by
  rcases hdob0 with hd | ⟨qd,vd,hd⟩
  ·rw [hd] at T2;refine Xh (k:=40) [0,3,4,5,6,7] [1,2,8] [h.objs.size+2,n2+2,n2+1,n2+0] ((GJ _ ..).2.1 _ ..).sg rfl Xn rm hp2 T2 rfl rfl (Xf (lm:=[(N9 h),(QH n2 w tk n1),(n2+1,listO [] 0),(n2+0,itO (n1+3) 1)]) [6,7] rfl rfl) st1.dd st1.kk ?_;intro h3 hp3 S3 X3 _ st;have e:=qt (W1 w) (W2 w) w.params n0 t0 n1 t1 n2 t2 h.objs.size tk h2.objs.size tk2 dl tt ttk ((ms 0).map MC.val) (es 0) ((ms 1).map MC.val) (es 1) 0 .none;rw [e];exact key h3 hp3 S3 X3 (st.cast e)
  ·rw [hd] at T2;refine Xh (k:=40) [0,3,4,5,6,7] [1,2,8] [h.objs.size+2,n2+2,n2+1,n2+0] ((GJ _ ..).2.2.1 _ ..).1.sg rfl Xn rm hp2 T2 rfl rfl (Xf (lm:=[(h.objs.size+2,dctO [XY w.params qd vd] 1),(QH n2 w tk n1),(n2+1,listO [] 0),(n2+0,itO (n1+3) 1)]) [6,7] rfl rfl) st1.dd st1.kk ?_;intro h3 hp3 S3 X3 _ st;have e:=(qt (W1 w) (W2 w) w.params n0 t0 n1 t1 n2 t2 h.objs.size tk h2.objs.size tk2 dl tt ttk ((ms 0).map MC.val) (es 0) ((ms 1).map MC.val) (es 1) qd vd).symm.trans (qt (W1 w) (W2 w) w.params n0 t0 n1 t1 n2 t2 h.objs.size tk h2.objs.size tk2 dl tt ttk ((ms 0).map MC.val) (es 0) ((ms 1).map MC.val) (es 1) 0 .none);rw [e];exact key h3 hp3 S3 X3 (st.cast e)
 intro h3 hp3 S3 X3 st3;have Y3:=Y2.trans X3 (fr4 (Nat.le_refl _));have T3:Has h3 ([(h2.objs.size+0,itO (n1+1) 0),(Go h2),(Z1 n1 ms es),(qN h2)]++([(Ge n2 w tk n1),(qP n2 h),(n2+0,itO (n1+3) 2),(Yu n1),(Z2 n1 ms es),(Jx h ks0 ve0),(Z0 n1 ms es)]++(ks0.map CKc.cell++E))):=Has.re (l:=[(Go h2),(qN h2),(h2.objs.size+0,itO (n1+1) 0),(Ge n2 w tk n1),(qP n2 h),(n2+0,itO (n1+3) 2),(Yu n1),(Z1 n1 ms es),(Z2 n1 ms es),(Jx h ks0 ve0),(Z0 n1 ms es)]) (l':=[(h2.objs.size+0,itO (n1+1) 0),(Go h2),(Z1 n1 ms es),(qN h2),(Ge n2 w tk n1),(qP n2 h),(n2+0,itO (n1+3) 2),(Yu n1),(Z2 n1 ms es),(Jx h ks0 ve0),(Z0 n1 ms es)]) S3 [2,0,7,1,3,4,5,6,8,9,10] rfl;refine yQ (t3:=tk2) st3.rm (hl 1 (by decide)) (hok 1 (by decide)) hp3 T3 ?_;intro h4 tk4 ks1 ve1 dob1 hp4 X4 hkn1 hkm1 hdob1 S4;have Y4:=Y3.trans X4 fun a ha=>.inr (fr Y2.size a ha);have T4:Has h4 ([(h2.objs.size+2,dob1),(Z1 n1 ms es),(y3 h2 ks1 ve1),(Ge n2 w tk n1),(qP n2 h),(n2+0,itO (n1+3) 2),(Yu n1),(Z2 n1 ms es),(Jx h ks0 ve0),(Z0 n1 ms es)]++(ks1.map CKc.cell++(ks0.map CKc.cell++E))):=Has.swap (X:=[(h2.objs.size+2,dob1),(Z1 n1 ms es),(y3 h2 ks1 ve1)]) (M:=ks1.map CKc.cell) (D:=[(Ge n2 w tk n1),(qP n2 h),(n2+0,itO (n1+3) 2),(Yu n1),(Z2 n1 ms es),(Jx h ks0 ve0),(Z0 n1 ms es)]) S4;suffices key:∀h5,Prog (PP w) h5->Has h5 ([(Gn h4),(Vb h4),(h4.objs.size+0,itO (n1+2) 0),(y4 n2 w tk n1),(Gh n2 h h2),(n2+0,itO (n1+3) 3),(Yu n1),(Z0 n1 ms es)]++([(Z1 n1 ms es),(y3 h2 ks1 ve1),(Z2 n1 ms es),(Jx h ks0 ve0)]++(ks1.map CKc.cell++(ks0.map CKc.cell++E))))->Ext [h2.objs.size+2,n2+2,n2+1,n2+0] h4 h5->Stop true 40 A (cloQ1M (W1 w) (W2 w) w.params n0 t0 n1 t1 n2 t2 h.objs.size tk h2.objs.size tk2 h4.objs.size tk4 dl tt ttk ((ms 0).map MC.val) (es 0) ((ms 1).map MC.val) (es 1) ((ms 2).map MC.val) (es 2) 0 .none)-> codeAny (model pw w) ((ar true A (cloQ1M (W1 w) (W2 w) w.params n0 t0 n1 t1 n2 t2 h.objs.size tk h2.objs.size tk2 h4.objs.size tk4 dl tt ttk ((ms 0).map MC.val) (es 0) ((ms 1).map MC.val) (es 1) ((ms 2).map MC.val) (es 2) 0 .none).res.K (cloQ1M (W1 w) (W2 w) w.params n0 t0 n1 t1 n2 t2 h.objs.size tk h2.objs.size tk2 h4.objs.size tk4 dl tt ttk ((ms 0).map MC.val) (es 0) ((ms 1).map MC.val) (es 1) ((ms 2).map MC.val) (es 2) 0 .none).res.c).mark none) (J8 (W1 w) (W2 w) w.params n0 t0 n1 t1 n2 t2 h4.objs.size tk4 dl tt ttk) (fun r s'=>Goes true (model pw w) A (qOf R) (eOf R) (cloQ1M (W1 w) (W2 w) w.params n0 t0 n1 t1 n2 t2 h.objs.size tk h2.objs.size tk2 h4.objs.size tk4 dl tt ttk ((ms 0).map MC.val) (es 0) ((ms 1).map MC.val) (es 1) ((ms 2).map MC.val) (es 2) 0 .none).res.K (cloQ1M (W1 w) (W2 w) w.params n0 t0 n1 t1 n2 t2 h.objs.size tk h2.objs.size tk2 h4.objs.size tk4 dl tt ttk ((ms 0).map MC.val) (es 0) ((ms 1).map MC.val) (es 1) ((ms 2).map MC.val) (es 2) 0 .none).res.c ((cloQ1M (W1 w) (W2 w) w.params n0 t0 n1 t1 n2 t2 h.objs.size tk h2.objs.size tk2 h4.objs.size tk4 dl tt ttk ((ms 0).map MC.val) (es 0) ((ms 1).map MC.val) (es 1) ((ms 2).map MC.val) (es 2) 0 .none).res.k r) s') ⟨h5,g,dr,tk4+1,os⟩ by
  rcases hdob1 with hd | ⟨qd,vd,hd⟩
  ·rw [hd] at T4;refine Xh (k:=40) [0,3,4,5,6,9] [1,2,7,8] [h2.objs.size+2,n2+2,n2+1,n2+0] ((yS _ ..).1 _ ..).sg rfl Xn rm hp4 T4 rfl rfl (Xf (lm:=[(Go h2),(Ge n2 w tk n1),(qP n2 h),(n2+0,itO (n1+3) 2)]) [6,7] rfl rfl) st3.dd st3.kk ?_;intro h5 hp5 S5 X5 _ st;have e:=qq (W1 w) (W2 w) w.params n0 t0 n1 t1 n2 t2 h.objs.size tk h2.objs.size tk2 h4.objs.size tk4 dl tt ttk ((ms 0).map MC.val) (es 0) ((ms 1).map MC.val) (es 1) ((ms 2).map MC.val) (es 2) 0 .none;rw [e];exact key h5 hp5 S5 X5 (st.cast e)
  ·rw [hd] at T4;refine Xh (k:=40) [0,3,4,5,6,9] [1,2,7,8] [h2.objs.size+2,n2+2,n2+1,n2+0] ((yS _ ..).2.1 _ ..).1.sg rfl Xn rm hp4 T4 rfl rfl (Xf (lm:=[(h2.objs.size+2,dctO [XY w.params qd vd] 1),(Ge n2 w tk n1),(qP n2 h),(n2+0,itO (n1+3) 2)]) [6,7] rfl rfl) st3.dd st3.kk ?_;intro h5 hp5 S5 X5 _ st;have e:=(qq (W1 w) (W2 w) w.params n0 t0 n1 t1 n2 t2 h.objs.size tk h2.objs.size tk2 h4.objs.size tk4 dl tt ttk ((ms 0).map MC.val) (es 0) ((ms 1).map MC.val) (es 1) ((ms 2).map MC.val) (es 2) qd vd).symm.trans (qq (W1 w) (W2 w) w.params n0 t0 n1 t1 n2 t2 h.objs.size tk h2.objs.size tk2 h4.objs.size tk4 dl tt ttk ((ms 0).map MC.val) (es 0) ((ms 1).map MC.val) (es 1) ((ms 2).map MC.val) (es 2) 0 .none);rw [e];exact key h5 hp5 S5 X5 (st.cast e)
 intro h5 hp5 S5 X5 st5;have Y5:=Y4.trans X5 (fr4 Y2.size);have T5:Has h5 ([(h4.objs.size+0,itO (n1+2) 0),(Gn h4),(Z0 n1 ms es),(Vb h4)]++([(y4 n2 w tk n1),(Gh n2 h h2),(n2+0,itO (n1+3) 3),(Yu n1),(Z1 n1 ms es),(y3 h2 ks1 ve1),(Z2 n1 ms es),(Jx h ks0 ve0)]++(ks1.map CKc.cell++(ks0.map CKc.cell++E)))):=Has.re (l:=[(Gn h4),(Vb h4),(h4.objs.size+0,itO (n1+2) 0),(y4 n2 w tk n1),(Gh n2 h h2),(n2+0,itO (n1+3) 3),(Yu n1),(Z0 n1 ms es),(Z1 n1 ms es),(y3 h2 ks1 ve1),(Z2 n1 ms es),(Jx h ks0 ve0)]) (l':=[(h4.objs.size+0,itO (n1+2) 0),(Gn h4),(Z0 n1 ms es),(Vb h4),(y4 n2 w tk n1),(Gh n2 h h2),(n2+0,itO (n1+3) 3),(Yu n1),(Z1 n1 ms es),(y3 h2 ks1 ve1),(Z2 n1 ms es),(Jx h ks0 ve0)]) S5 [2,0,7,1,3,4,5,6,8,9,10,11] rfl;refine yQ (t3:=tk4) st5.rm (hl 2 (by decide)) (hok 2 (by decide)) hp5 T5 ?_;intro h6 tk6 ks2 ve2 dob2 hp6 X6 hkn2 hkm2 hdob2 S6;have Y6:=Y5.trans X6 fun a ha=>.inr (fr Y4.size a ha);have T6:Has h6 ([(h4.objs.size+2,dob2),(Z0 n1 ms es),(Vd h4 ks2 ve2),(y4 n2 w tk n1),(Gh n2 h h2),(n2+0,itO (n1+3) 3),(Yu n1),(Z1 n1 ms es),(y3 h2 ks1 ve1),(Z2 n1 ms es),(Jx h ks0 ve0)]++(ks2.map CKc.cell++(ks1.map CKc.cell++(ks0.map CKc.cell++E)))):=Has.swap (X:=[(h4.objs.size+2,dob2),(Z0 n1 ms es),(Vd h4 ks2 ve2)]) (M:=ks2.map CKc.cell) (D:=[(y4 n2 w tk n1),(Gh n2 h h2),(n2+0,itO (n1+3) 3),(Yu n1),(Z1 n1 ms es),(y3 h2 ks1 ve1),(Z2 n1 ms es),(Jx h ks0 ve0)]) S6;rcases hdob2 with hd | ⟨qd,vd,hd⟩
 ·rw [hd] at T6;refine Xm (k:=60) [0,3,4,5,6] [1,2,7,8,9,10] [h4.objs.size+2,n2+2,n2+1,n2+0] (((yS _ ..).2.2 _ ..).1 ..).sg rfl Xn rm hp6 T6 rfl rfl (Xf (lm:=[(Gn h4),(y4 n2 w tk n1),(Gh n2 h h2),(n2+0,itO (n1+3) 3)]) [2] rfl rfl) st5.dd st5.kk ?_;intro h7 hp7 S7 X7;have S9:Has h7 ([(y4 n2 w tk n1),(n2+1,listO [.ref (h.objs.size+1),.ref (h2.objs.size+1),.ref (h4.objs.size+1)] 3),(Jx h ks0 ve0),(y3 h2 ks1 ve1),(Vd h4 ks2 ve2)]++(ks2.map CKc.cell++(ks1.map CKc.cell++(ks0.map CKc.cell++E)))):=Has.re2 S7 [0,1,8,6,4] rfl;refine Hn h7 _ _ _ _ _ _ _ ks0 ks1 ks2 _ _ hp7 (Y6.trans X7 (fr4 Y4.size)) hkm0 hkm1 hkm2 (S9.perm (List.Perm.append_left _ ?_));exact (List.Perm.append_left _ (List.perm_append_comm_assoc _ _ _)).trans ((List.perm_append_comm_assoc _ _ _).trans (List.Perm.append_left _ (List.perm_append_comm_assoc _ _ _)))
 ·rw [hd] at T6;refine Xm (k:=60) [0,3,4,5,6] [1,2,7,8,9,10] [h4.objs.size+2,n2+2,n2+1,n2+0] (((yS _ ..).2.2 _ ..).2 ..).sg rfl Xn rm hp6 T6 rfl rfl (Xf (lm:=[(h4.objs.size+2,dctO [XY w.params qd vd] 1),(y4 n2 w tk n1),(Gh n2 h h2),(n2+0,itO (n1+3) 3)]) [2] rfl rfl) st5.dd st5.kk ?_;intro h7 hp7 S7 X7;have S9:Has h7 ([(y4 n2 w tk n1),(n2+1,listO [.ref (h.objs.size+1),.ref (h2.objs.size+1),.ref (h4.objs.size+1)] 3),(Jx h ks0 ve0),(y3 h2 ks1 ve1),(Vd h4 ks2 ve2)]++(ks2.map CKc.cell++(ks1.map CKc.cell++(ks0.map CKc.cell++E)))):=Has.re2 S7 [0,1,8,6,4] rfl;refine Hn h7 _ _ _ _ _ _ _ ks0 ks1 ks2 _ _ hp7 (Y6.trans X7 (fr4 Y4.size)) hkm0 hkm1 hkm2 (S9.perm (List.Perm.append_left _ ?_));exact (List.Perm.append_left _ (List.perm_append_comm_assoc _ _ _)).trans ((List.perm_append_comm_assoc _ _ _).trans (List.Perm.append_left _ (List.perm_append_comm_assoc _ _ _)))
end

noncomputable def Az(n t:Nat):Nat->HS:=fun p=>if p=0 then ⟨n+9,n+8,n+1,t+16,3,⟨n+3,0,false,1,t+3,t+5⟩,⟨n+4,1,false,1,t+6,t+8⟩,⟨n+5,2,false,1,t+9,t+11⟩⟩ else if p=1 then ⟨n+38,n+37,n+30,t+63,3,⟨n+32,0,false,1,t+50,t+52⟩,⟨n+33,1,false,1,t+53,t+55⟩,⟨n+34,2,false,1,t+56,t+58⟩⟩ else ⟨n+67,n+66,n+59,t+110,3,⟨n+61,0,false,1,t+97,t+99⟩,⟨n+62,1,false,1,t+100,t+102⟩,⟨n+63,2,false,1,t+103,t+105⟩⟩
noncomputable def v3n(x:N3):V3:=((x.1:Int) - 1,(x.2.1:Int) - 1,(x.2.2:Int) - 1)
noncomputable def cs0:CS:=⟨fun _ _=>1,fun _=>[]⟩
def msN:Nat->List MC:=fun _=>[]
def esN:Nat->Nat:=fun _=>0
theorem CB0:CB cs0 0 (fun _=>0):=⟨fun _ _ _ _=>Nat.le_refl _,fun _ _ _ _ x hx=>(nomatch hx),rfl,fun _ _=>rfl⟩
theorem Sn{P:Nat->Prop}(h0:P 0)(h1:P 1)(h2:P 2):∀p,p<3->P p:=by
 intro p hp;have:p=0\/p=1\/p=2:=lt3 (by assumption);rcases this with rfl | rfl | rfl
 ·exact h0
 ·exact h1
 ·exact h2
theorem MH{s:HS}(a0:s.c0.q=0)(a1:s.c1.q=1)(a2:s.c2.q=2)(b0:s.c0.n=1)(b1:s.c1.n=1)(b2:s.c2.n=1):s.Ok2:=by
 have hd:∀q,s.dots q=1:=by
  intro q;unfold HS.dots;rw [b0,b1,b2]
  split
  ·rfl
  ·split<;>rfl
 refine ⟨⟨by omega,by omega,by omega,by omega,by omega,by omega⟩,fun j=>?_,fun j=>?_⟩
 ·rw [hd];exact Nat.le_refl _
 ·rw [hd];decide
theorem Fg{s:HS}(b0:s.c0.n=1)(b1:s.c1.n=1)(b2:s.c2.n=1)(q:Nat):s.dots q=1:=by
 unfold HS.dots;rw [b0,b1,b2]
 split
 ·rfl
 ·split<;>rfl
theorem CR0{n t:Nat}:CR (fun p=>(Az n t p).x) (fun p=>(Az n t p).l) (Az n t) msN cs0:=by
 refine ⟨fun p _=>rfl,fun p _=>rfl,?_,?_,fun p _ c hc=>(nomatch hc),fun p _=>rfl⟩
 ·exact Sn (MH rfl rfl rfl rfl rfl rfl) (MH rfl rfl rfl rfl rfl rfl) (MH rfl rfl rfl rfl rfl rfl)
 ·intro p q hp hq;revert p;exact Sn (Fg rfl rfl rfl q) (Fg rfl rfl rfl q) (Fg rfl rfl rfl q)
theorem Z5{cs:List MC}:cs.map MC.v3=(cs.map MC.x).map v3n:=by
 rw [List.map_map]
 rfl
theorem QO(ds:List D3)(st:CS)(p:Nat):((ds.foldl cstep st).r p).length<=(st.r p).length+ds.length:=by
 induction ds generalizing st with
 | nil=>exact Nat.le_refl _
 | cons d ds ih=>
  rw [List.foldl_cons,List.length_cons];refine Nat.le_trans (ih _) ?_;have:((cstep st d).r p).length<=(st.r p).length+1:=by
   show (upd st.r d.1.toNat (st.r d.1.toNat++[(nvF st d 0,nvF st d 1,nvF st d 2)]) p).length<=_;unfold upd
   split
   ·rename_i h;rw [h,List.length_append];exact Nat.le_refl _
   ·exact Nat.le_succ _
  lia
theorem Sy{h:Heap}{X F Y k0 k1 k2:List (Addr×Obj)}(H:Has h (X++(k0++(k1++(k2++(F++Y)))))):Has h ((X++F)++(k0++(k1++(k2++Y)))):=by
 rw [List.append_assoc];refine H.perm (List.Perm.append_left X ?_);refine (List.Perm.append_left k0 ((List.Perm.append_left k1 (List.perm_append_comm_assoc k2 F Y)).trans (List.perm_append_comm_assoc k1 F _))).trans (List.perm_append_comm_assoc k0 F _)
theorem SK{h:Heap}{X F Z Y k0 k1 k2:List (Addr×Obj)}(H:Has h ((X++F)++(k0++(k1++(k2++(Z++Y)))))):Has h (X++(k0++(k1++(k2++(F++Y))))):=by
 have H1:Has h ((X++F)++(k0++(k1++(k2++Y)))):=H.sub (List.Sublist.append_left (List.Sublist.append_left (List.Sublist.append_left (List.Sublist.append_left (List.sublist_append_right Z Y) k2) k1) k0) (X++F));rw [List.append_assoc] at H1;refine H1.perm (List.Perm.append_left X (List.Perm.symm ?_));refine (List.Perm.append_left k0 ((List.Perm.append_left k1 (List.perm_append_comm_assoc k2 F Y)).trans (List.perm_append_comm_assoc k1 F _))).trans (List.perm_append_comm_assoc k0 F _)
structure Old (B:Nat) (h h':Heap):Prop where
 size:h.objs.size<=h'.objs.size
 keep:∀b o,h.get? b=some o->b<B->b≠239->h'.get? b=some o
theorem Old.refl(B:Nat)(h:Heap):Old B h h:=⟨Nat.le_refl _,fun _ _ e _ _=>e⟩
theorem Old.trans{B:Nat}{h h' h'':Heap}(x:Old B h h')(y:Old B h' h''):Old B h h'':=⟨Nat.le_trans x.size y.size,fun b o e h1 h2=>y.keep b o (x.keep b o e h1 h2) h1 h2⟩
theorem Old.of{B:Nat}{as:List Addr}{h h':Heap}(X:Ext as h h')(ha:∀a∈as,B<=a\/a=239):Old B h h':=
 ⟨X.size,fun b o e h1 h2=>X.keep b o e fun hm=>(ha b hm).elim (fun z=>absurd h1 (Nat.not_lt.mpr z)) h2⟩
theorem Xq{p:Addr->Prop}:∀a∈([]:List Addr),p a:=fun _ ha=>(nomatch ha)
theorem all_cons{p:Addr->Prop}{x:Addr}{l:List Addr}(h:p x)(t:∀a∈l,p a):∀a∈x::l,p a:=fun a ha=>by
 rcases List.mem_cons.mp ha with rfl | ha
 ·exact h
 ·exact t a ha
theorem VB{h h1 h2 h3 h4 h5 h6 h7 h8:Heap}{ls:Nat->Addr}(hls:∀p,h1.objs.size<=ls p)(X1:Ext [] h h1)(X2:Ext [h.objs.size+4,h.objs.size+3,h.objs.size+2] h1 h2)(X3:Ext [h.objs.size+4,h.objs.size+0] h2 h3)
  (X4:Ext (AL h.objs.size h2.objs.size ls) h3 h4)(X5:Ext (AL h.objs.size h2.objs.size ls) h4 h5)(X6:Ext [] h5 h6)(X7:Ext [h5.objs.size+2,h5.objs.size+1,h5.objs.size+0] h6 h7)(X8:Ext [h5.objs.size+2] h7 h8):Old h.objs.size h h8:=by
 have b1:h.objs.size<=h1.objs.size:=X1.size;have b2:h.objs.size<=h2.objs.size:=Nat.le_trans b1 X2.size;have b5:h.objs.size<=h5.objs.size:=Nat.le_trans b2 (Nat.le_trans X3.size (Nat.le_trans X4.size X5.size));have hal:∀a∈AL h.objs.size h2.objs.size ls,h.objs.size<=a\/a=239:=by
  unfold AL;exact all_cons (.inl (Nat.le_trans b2 (lar))) (all_cons (.inl (lar)) (all_cons (.inl (Nat.le_trans b1 (hls 0))) (all_cons (.inl (Nat.le_trans b1 (hls 1))) (all_cons (.inl (Nat.le_trans b1 (hls 2)))
   (all_cons (.inl (Nat.le_trans b2 (lar))) (all_cons (.inl (Nat.le_trans b2 (lar))) (all_cons (.inl (Nat.le_trans b2 (lar))) Xq)))))))
 have o1:Old h.objs.size h h1:=Old.of X1 Xq;have o2:Old h.objs.size h1 h2:=Old.of X2 (all_cons (.inl (lar)) (all_cons (.inl (lar)) (all_cons (.inl (lar)) Xq)));have o3:Old h.objs.size h2 h3:=Old.of X3 (all_cons (.inl (lar)) (all_cons (.inl (lar)) Xq));have o4:Old h.objs.size h3 h4:=Old.of X4 hal;have o5:Old h.objs.size h4 h5:=Old.of X5 hal;have o6:Old h.objs.size h5 h6:=Old.of X6 Xq;have o7:Old h.objs.size h6 h7:=Old.of X7 (all_cons (.inl (Nat.le_trans b5 (lar))) (all_cons (.inl (Nat.le_trans b5 (lar))) (all_cons (.inl (Nat.le_trans b5 (lar))) Xq)));have o8:Old h.objs.size h7 h8:=Old.of X8 (all_cons (.inl (Nat.le_trans b5 (lar))) Xq);exact o1.trans (o2.trans (o3.trans (o4.trans (o5.trans (o6.trans (o7.trans o8))))))
theorem TV(n t p:Nat):n<=(Az n t p).l:=by
 unfold Az
 split
 ·exact lar
 ·split<;>exact lar
abbrev Jl(h1:Heap) tk:=(Az h1.objs.size (tk+5))
abbrev GE(h:Heap)(h1:Heap) tk:=((h.objs.size+3,listO [.ref ((fun p=>((Jl h1 tk) p).x) 0),.ref ((fun p=>((Jl h1 tk) p).x) 1),.ref ((fun p=>((Jl h1 tk) p).x) 2)] 3):Xp)
abbrev Ft(h2:Heap):Xp:=(h2.objs.size+3,listO [.ref (h2.objs.size+0),.ref (h2.objs.size+1),.ref (h2.objs.size+2)] 0)
abbrev Gp(h:Heap)(h1:Heap) tk:=((h.objs.size+3,listO [.ref ((Jl h1 tk) 0).x,.ref ((Jl h1 tk) 1).x,.ref ((Jl h1 tk) 2).x] 3):Xp)
abbrev Gm(h:Heap)(w:World) tk(h2:Heap) dl tt ttk q2' q3' q4' q5' wt' wi' wj' wm' q6' wl':=((h.objs.size+0,fC w.params h.objs.size tk h2.objs.size dl tt ttk ((tk+5+141)+0) ((tk+5+141)+1) (fC4 w.params q2' q3' q4' q5' wt' wi' wj' wm' (fC1 w.params q6' wl')) 9):Xp)
abbrev BE(h:Heap)(w:World) tk(h2:Heap) dl tt ttk:=((h.objs.size+0,fC w.params h.objs.size tk h2.objs.size dl tt ttk ((tk+5+141)+0) ((tk+5+141)+1) [] 4):Xp)
abbrev Ll(h5:Heap)(h2:Heap):ZQ:=[(yI h5),(yJ h5),(h5.objs.size+0,itO (h2.objs.size+3) 0),(Ft h2)]
abbrev Vu(h:Heap)(w:World) tk dl tt ttk:=((h.objs.size+0,frameO [kn1 w.params (tk+0) (.ref dl),Zq w.params (tk+1) (.int tt ttk)] 2):Xp)
abbrev Vt(h:Heap)(w:World) tk:=((h.objs.size+4,dctO [YS w.params (tk+5+1) (.int 2 (tk+5+94))] 1):Xp)
abbrev QG(h5:Heap) r0 r1 r2:=((h5.objs.size+1,listO [.ref r0,.ref r1,.ref r2] 3):Xp)
abbrev Vg(h5:Heap)(w:World) qr vr:=((h5.objs.size+2,dctO [kn21 w.params qr vr] 1):Xp)
abbrev Va(h2:Heap):Xp:=(h2.objs.size+0,listO [] 0)
theorem GF{w:World}{A:Around}{g:Array GenState}{dr:Drawn}{os:OsState}{R:Result->Shared->Prop}{h:Heap}{tk:Nat}{dl:Addr}{tt:Int}{ttk de:Nat}{dcs:List DC}{E:List (Addr×Obj)}(rm:Room 140 A)(hp:Prog (PP w) h)(hl:dcs.length=4\/dcs.length=5)(hok:∀d∈dcs,d.Ok)(cv:CV cs0 (dcs.map DC.d)) (H:Has h ([(XT dl dcs de)]++(dcs.map DC.cell++E))) (Hn:∀h' tk' r e r0 r1 r2 f0 f1 f2 (ks0 ks1 ks2:List CKc),Prog (PP w) h'->Old h.objs.size h h'->ks0.map CKc.x=(((dcs.map DC.d).foldl cstep cs0).r 0).map v3n->ks1.map CKc.x=(((dcs.map DC.d).foldl cstep cs0).r 1).map v3n->ks2.map CKc.x=(((dcs.map DC.d).foldl cstep cs0).r 2).map v3n-> Has h' ([(r,listO [.ref r0,.ref r1,.ref r2] e),(Zi r0 ks0 f0),(Zh r1 ks1 f1),(Zg r2 ks2 f2)]++(ks0.map CKc.cell++(ks1.map CKc.cell++(ks2.map CKc.cell++([(XT dl dcs de)]++(dcs.map DC.cell++E))))))->R (.ok (.ret (.ref r))) ⟨h',g,dr,tk',os⟩): codeAny (model pw w) A (.call (.ref 232) ⟨[.ref dl,.int tt ttk],[]⟩) R ⟨h,g,dr,tk,os⟩:=by
 have hne:∃d rest,dcs=d::rest:=by
  cases dcs with
  | nil=>rcases hl with x | x<;>cases x
  | cons d rest=>exact ⟨d,rest,rfl⟩
 obtain ⟨d,rest,hdc⟩:=hne;have hm:d∈dcs:=by rw [hdc];exact .head _
 have hokd:=hok d hm;have hkk:(dcs.map DC.val)[(0:Int).toNat]? =some d.val:=by rw [hdc];rfl
 rw [hdc,List.map_cons] at cv;have hi0:=hokd.i0;have hi3':=hokd.i3;have hj0:=hokd.j0;have hj3':=hokd.j3;have hi3:d.i.toNat<3:=by omega
 have hj3:d.j.toNat<3:=by omega
 have hv:=fun q (hq:q<3)=>TU (d:=d.d) CB0 hi3 hj3 cv.1 hq;have hv0:=hv 0 (by decide);have hv1:=hv 1 (by decide);have hv2:=hv 2 (by decide);have B1:=CB0.step (d:=d.d) hi3 hj3 cv.1;refine XG (Nat.le_trans (lar) rm.d) (by rw [Yd];exact Nat.zero_le _) ?_;refine Xh (k:=120) [] [0] [] (VD ..).toSeg rfl Xn rm hp H rfl rfl XS (Nat.le_refl _) trivial ?_;intro h1 hp1 S1 X1 _ st1;have hw:=(VD (W1 w) (W2 w) w.params h.objs.size tk dl tt ttk).wq;simp only [Prod.mk.injEq] at hw;refine Xi ?_;refine Xm (k:=120) [0,1,2] [3,4] [h.objs.size+4,h.objs.size+3,h.objs.size+2] (Lt ..).sg rfl (ob (XB (q:=1) (by decide)) (ob (Xu (q:=2) (up:=false) (by decide)) (ob (XB (q:=1) (by decide)) (ob (Xu (q:=1) (up:=false) (by decide)) (ob (XB (q:=1) (by decide)) (ob (Xu (q:=0) (up:=false) (by decide)) (ob (XB (q:=1) (by decide)) (ob (Xu (q:=2) (up:=false) (by decide)) (ob (XB (q:=1) (by decide)) (ob (Xu (q:=1) (up:=false) (by decide)) (ob (XB (q:=1) (by decide)) (ob (Xu (q:=0) (up:=false) (by decide)) (ob (XB (q:=1) (by decide)) (ob (Xu (q:=2) (up:=false) (by decide)) (ob (XB (q:=1) (by decide)) (ob (Xu (q:=1) (up:=false) (by decide)) (ob (XB (q:=1) (by decide)) (ob (Xu (q:=0) (up:=false) (by decide)) Xn)))))))))))))))))) st1.rm hp1 S1 rfl rfl (Xf (lm:=[(h.objs.size+4,dctO [] 0),(yL h),(h.objs.size+2,rgO 0 3)]) [] rfl rfl) (Xg hw.1) trivial ?_;intro h2 hp2 S2 X2;have T2:Has h2 ([(Vt h w tk),(Gp h h1 tk),(Vu h w tk dl tt ttk),(XT dl dcs de)]++(hcs w.params (Jl h1 tk)++(dcs.map DC.cell++E))):=Has.swap (X:=[(Vt h w tk),(Gp h h1 tk)]) (M:=hcs w.params (Jl h1 tk)) (D:=[(Vu h w tk dl tt ttk),(XT dl dcs de)]) S2;rcases hl with hl | hl
 ·skip;refine Xh (k:=120) [0,2,3] [1] [h.objs.size+4,h.objs.size+0] (GI ..).toSeg rfl (ob (XV (k:=4) (by rw [List.length_map];exact hl) (by decide)) Xn) rm hp2 T2 rfl rfl (Xf (lm:=[(Vt h w tk),(Vu h w tk dl tt ttk)]) [6] rfl rfl) st1.dd st1.kk ?_;intro h3 hp3 S3 X3 _ st3;have S3':Has h3 ([(h2.objs.size+5,rgO 0 4),(BE h w tk h2 dl tt ttk),(Gp h h1 tk),(Ft h2),(XT dl dcs de)]++(mcs h2.objs.size msN esN++(hcs w.params (Jl h1 tk)++(dcs.map DC.cell++E)))):=Has.re (l:=[(h2.objs.size+5,rgO 0 4),(BE h w tk h2 dl tt ttk),(Ft h2),(Va h2),(qN h2),(JW h2),(XT dl dcs de),(Gp h h1 tk)]) (l':=[(h2.objs.size+5,rgO 0 4),(BE h w tk h2 dl tt ttk),(Gp h h1 tk),(Ft h2),(XT dl dcs de),(Va h2),(qN h2),(JW h2)]) S3 [0,1,7,2,6,3,4,5] rfl;have e4:((4:Int) - 1)=(rest.length:Int):=by
   have:=hl;rw [hdc,List.length_cons] at this;lia
  refine yP (k:=0) (r:=4) st3.rm hp3 hm hokd (by decide) (by decide) hkk (by decide) CR0 cv.1 (by omega) (fun p hp=>Nat.zero_le _) S3' ?_;intro h4 tk4 hs4 ms4 es4 q2 q3 q4 q5 q6 wt wi wj wm wl hp4 X4 C4 S4;rw [e4] at S4;refine qp st3.rm (by left;exact hl) hok rest [d] hdc hp4 C4 B1 cv.2 S4 ?_;intro h5 tk5 hs5 ms5 es5 q2' q3' q4' q5' q6' wt' wi' wj' wm' wl' hp5 X5 C5 S5;refine Xh (k:=60) [0,2] [1,3] [] ((N4 ..).2.2 _ ..).1.sg rfl Xn rm hp5 S5 rfl rfl (Xf (lm:=[]) [3,4] rfl rfl) st3.dd st3.kk ?_;intro h6 hp6 S6 X6 _ st6;have T6:Has h6 (((Ll h5 h2)++mcs h2.objs.size ms5 es5)++([(Gm h w tk h2 dl tt ttk q2' q3' q4' q5' wt' wi' wj' wm' q6' wl'),(GE h h1 tk),(XT dl dcs de)]++(hcs w.params hs5++(dcs.map DC.cell++E)))):=Has.re (l:=[(yI h5),(yJ h5),(h5.objs.size+0,itO (h2.objs.size+3) 0),(Gm h w tk h2 dl tt ttk q2' q3' q4' q5' wt' wi' wj' wm' q6' wl'),(Ft h2),(GE h h1 tk),(XT dl dcs de)]++mcs h2.objs.size ms5 es5) (l':=(Ll h5 h2)++(mcs h2.objs.size ms5 es5++[(Gm h w tk h2 dl tt ttk q2' q3' q4' q5' wt' wi' wj' wm' q6' wl'),(GE h h1 tk),(XT dl dcs de)])) S6 [0,1,2,4,7,8,9,3,5,6] rfl;have hr5:∀p,p<3->(ms5 p).map MC.x=(((dcs.map DC.d).foldl cstep cs0).r p):=by
   intro p hp;rw [C5.r p hp,hdc]
   rfl
  refine QM (ms:=ms5) (es:=es5) st6.rm hp6 C5.mok (fun p hp=>by
   have:=congrArg List.length (hr5 p hp);rw [List.length_map] at this;rw [this];exact Nat.le_trans (QO _ _ _) (by rw [List.length_map,hl];exact (by decide:0+4<=5))) T6 ?_
  intro h7 tk7 r0 r1 r2 f0 f1 f2 ks0 ks1 ks2 qr vr hp7 X7 g0 g1 g2 S7;have S7':Has h7 ([(Vg h5 w qr vr),(QG h5 r0 r1 r2),(Zi r0 ks0 f0),(Zh r1 ks1 f1),(Zg r2 ks2 f2),(Gm h w tk h2 dl tt ttk q2' q3' q4' q5' wt' wi' wj' wm' q6' wl'),(GE h h1 tk),(XT dl dcs de)]++(ks0.map CKc.cell++(ks1.map CKc.cell++(ks2.map CKc.cell++(hcs w.params hs5++(dcs.map DC.cell++E)))))):=Sy S7;refine Xm (k:=140) [0,5] [1,2,3,4,6,7] [h5.objs.size+2] (((N4 ..).2.2 _ ..).2 ..).sg rfl Xn rm hp7 S7' rfl rfl (Xf (lm:=[(Vg h5 w qr vr)]) [0] rfl rfl) st6.dd st6.kk ?_;intro h8 hp8 S8 X8;have S9:Has h8 ([(QG h5 r0 r1 r2),(Zi r0 ks0 f0),(Zh r1 ks1 f1),(Zg r2 ks2 f2),(XT dl dcs de)]++(ks0.map CKc.cell++(ks1.map CKc.cell++(ks2.map CKc.cell++(hcs w.params hs5++(dcs.map DC.cell++E)))))):=Has.re2 S8 [1,2,3,4,6] rfl;have S10:=SK (X:=[(QG h5 r0 r1 r2),(Zi r0 ks0 f0),(Zh r1 ks1 f1),(Zg r2 ks2 f2)]) (F:=[(XT dl dcs de)]) S9;rw [Z5,hr5 0 (by decide)] at g0;rw [Z5,hr5 1 (by decide)] at g1;rw [Z5,hr5 2 (by decide)] at g2;exact Hn h8 _ (h5.objs.size+1) 3 r0 r1 r2 f0 f1 f2 ks0 ks1 ks2 hp8 (VB (fun p=>TV _ _ p) X1 X2 X3 X4 X5 X6 X7 X8) g0 g1 g2 S10
 ·skip;refine Xh (k:=120) [0,2,3] [1] [h.objs.size+4,h.objs.size+0] (Wp _ ..).1.sg rfl (ob (XV (k:=5) (by rw [List.length_map];exact hl) (by decide)) Xn) rm hp2 T2 rfl rfl (Xf (lm:=[(Vt h w tk),(Vu h w tk dl tt ttk)]) [6] rfl rfl) st1.dd st1.kk ?_;intro h3 hp3 S3 X3 _ st3;have S3':Has h3 ([(h2.objs.size+5,rgO 0 5),(BE h w tk h2 dl tt ttk),(Gp h h1 tk),(Ft h2),(XT dl dcs de)]++(mcs h2.objs.size msN esN++(hcs w.params (Jl h1 tk)++(dcs.map DC.cell++E)))):=Has.re (l:=[(h2.objs.size+5,rgO 0 5),(BE h w tk h2 dl tt ttk),(Ft h2),(Va h2),(qN h2),(JW h2),(XT dl dcs de),(Gp h h1 tk)]) (l':=[(h2.objs.size+5,rgO 0 5),(BE h w tk h2 dl tt ttk),(Gp h h1 tk),(Ft h2),(XT dl dcs de),(Va h2),(qN h2),(JW h2)]) S3 [0,1,7,2,6,3,4,5] rfl;have e4:((5:Int) - 1)=(rest.length:Int):=by
   have:=hl;rw [hdc,List.length_cons] at this;lia
  refine yP (k:=0) (r:=5) st3.rm hp3 hm hokd (by decide) (by decide) hkk (by decide) CR0 cv.1 (by omega) (fun p hp=>Nat.zero_le _) S3' ?_;intro h4 tk4 hs4 ms4 es4 q2 q3 q4 q5 q6 wt wi wj wm wl hp4 X4 C4 S4;rw [e4] at S4;refine qp st3.rm (by right;exact hl) hok rest [d] hdc hp4 C4 B1 cv.2 S4 ?_;intro h5 tk5 hs5 ms5 es5 q2' q3' q4' q5' q6' wt' wi' wj' wm' wl' hp5 X5 C5 S5;refine Xh (k:=60) [0,2] [1,3] [] ((Wp _ ..).2 ..).1.sg rfl Xn rm hp5 S5 rfl rfl (Xf (lm:=[]) [3,4] rfl rfl) st3.dd st3.kk ?_;intro h6 hp6 S6 X6 _ st6;have T6:Has h6 (((Ll h5 h2)++mcs h2.objs.size ms5 es5)++([(Gm h w tk h2 dl tt ttk q2' q3' q4' q5' wt' wi' wj' wm' q6' wl'),(GE h h1 tk),(XT dl dcs de)]++(hcs w.params hs5++(dcs.map DC.cell++E)))):=Has.re (l:=[(yI h5),(yJ h5),(h5.objs.size+0,itO (h2.objs.size+3) 0),(Gm h w tk h2 dl tt ttk q2' q3' q4' q5' wt' wi' wj' wm' q6' wl'),(Ft h2),(GE h h1 tk),(XT dl dcs de)]++mcs h2.objs.size ms5 es5) (l':=(Ll h5 h2)++(mcs h2.objs.size ms5 es5++[(Gm h w tk h2 dl tt ttk q2' q3' q4' q5' wt' wi' wj' wm' q6' wl'),(GE h h1 tk),(XT dl dcs de)])) S6 [0,1,2,4,7,8,9,3,5,6] rfl;have hr5:∀p,p<3->(ms5 p).map MC.x=(((dcs.map DC.d).foldl cstep cs0).r p):=by
   intro p hp;rw [C5.r p hp,hdc]
   rfl
  refine QM (ms:=ms5) (es:=es5) st6.rm hp6 C5.mok (fun p hp=>by
   have:=congrArg List.length (hr5 p hp);rw [List.length_map] at this;rw [this];exact Nat.le_trans (QO _ _ _) (by rw [List.length_map,hl];exact (by decide:0+5<=5))) T6 ?_
  intro h7 tk7 r0 r1 r2 f0 f1 f2 ks0 ks1 ks2 qr vr hp7 X7 g0 g1 g2 S7;have S7':Has h7 ([(Vg h5 w qr vr),(QG h5 r0 r1 r2),(Zi r0 ks0 f0),(Zh r1 ks1 f1),(Zg r2 ks2 f2),(Gm h w tk h2 dl tt ttk q2' q3' q4' q5' wt' wi' wj' wm' q6' wl'),(GE h h1 tk),(XT dl dcs de)]++(ks0.map CKc.cell++(ks1.map CKc.cell++(ks2.map CKc.cell++(hcs w.params hs5++(dcs.map DC.cell++E)))))):=Sy S7;refine Xm (k:=140) [0,5] [1,2,3,4,6,7] [h5.objs.size+2] (((Wp _ ..).2 ..).2 ..).sg rfl Xn rm hp7 S7' rfl rfl (Xf (lm:=[(Vg h5 w qr vr)]) [0] rfl rfl) st6.dd st6.kk ?_;intro h8 hp8 S8 X8;have S9:Has h8 ([(QG h5 r0 r1 r2),(Zi r0 ks0 f0),(Zh r1 ks1 f1),(Zg r2 ks2 f2),(XT dl dcs de)]++(ks0.map CKc.cell++(ks1.map CKc.cell++(ks2.map CKc.cell++(hcs w.params hs5++(dcs.map DC.cell++E)))))):=Has.re2 S8 [1,2,3,4,6] rfl;have S10:=SK (X:=[(QG h5 r0 r1 r2),(Zi r0 ks0 f0),(Zh r1 ks1 f1),(Zg r2 ks2 f2)]) (F:=[(XT dl dcs de)]) S9;rw [Z5,hr5 0 (by decide)] at g0;rw [Z5,hr5 1 (by decide)] at g1;rw [Z5,hr5 2 (by decide)] at g2;exact Hn h8 _ (h5.objs.size+1) 3 r0 r1 r2 f0 f1 f2 ks0 ks1 ks2 hp8 (VB (fun p=>TV _ _ p) X1 X2 X3 X4 X5 X6 X7 X8) g0 g1 g2 S10

noncomputable def dk(st:CS)(p k q:Nat):Nat:=if k=0 then 1 else g3 ((st.r p).getD (k - 1) (0,0,0)) q
structure OkD (st:CS) (d:D3):Prop where
 i0:0<=d.1
 i3:d.1<3
 j0:0<=d.2.1
 j3:d.2.1<3
 m0:0<=d.2.2
 m:d.2.2<=(st.r d.2.1.toNat).length
 s:d.1=d.2.1->d.2.2=0
inductive Run:List D3->CS->Prop
 | nil:Run [] cs0
 | snoc {ds:List D3} {st:CS} {d:D3}:Run ds st->OkD st d->Run (ds++[d]) (cstep st d)
theorem Run.fold{ds:List D3}{st:CS}(r:Run ds st):ds.foldl cstep cs0=st:=by
 induction r with
 | nil=>rfl
 | snoc r ok ih=>rw [List.foldl_append,ih];rfl
theorem VY{d:D3}:∀(ds:List D3) (st:CS),CV st ds->d.2.2<=((ds.foldl cstep st).r d.2.1.toNat).length->CV st (ds++[d])
 | [],st,_,h=>⟨h,trivial⟩
 | x::ds,st,hc,h=>⟨hc.1,VY ds _ hc.2 h⟩
theorem Run.cv{ds:List D3}{st:CS}(r:Run ds st):CV cs0 ds:=by
 induction r with
 | nil=>trivial
 | snoc r ok ih=>exact VY _ _ ih (by rw [r.fold];exact ok.m)
theorem CI{f:Nat->Nat}{q:Nat}(hq:q<3):g3 (f 0,f 1,f 2) q=f q:=by
 rcases lt3 (by assumption) with rfl | rfl | rfl<;>rfl
theorem Zz{st:CS}{d:D3}{p k q:Nat}(hk:k<=(st.r p).length):dk (cstep st d) p k q=dk st p k q:=by
 unfold dk
 by_cases h0:k=0
 ·rw [if_pos h0,if_pos h0]
 ·rw [if_neg h0,if_neg h0];show g3 ((upd st.r d.1.toNat _ p).getD _ _) q=_
  by_cases hp:p=d.1.toNat
  ·subst hp;rw [Xw,List.getD_eq_getElem?_getD,List.getD_eq_getElem?_getD,List.getElem?_append_left (by omega)]
  ·rw [XU hp]
theorem Yr{st:CS}{d:D3}{p:Nat}:((cstep st d).r p).length=(st.r p).length+(if p=d.1.toNat then 1 else 0):=by
 show (upd st.r d.1.toNat _ p).length=_
 by_cases hp:p=d.1.toNat
 ·subst hp;rw [Xw,if_pos rfl,List.length_append];rfl
 ·rw [XU hp,if_neg hp];rfl
theorem Jw{st:CS}{d:D3}{q:Nat}(hq:q<3):dk (cstep st d) d.1.toNat ((st.r d.1.toNat).length+1) q=nvF st d q:=by
 unfold dk;rw [if_neg (Nat.succ_ne_zero _)];show g3 ((upd st.r d.1.toNat _ d.1.toNat).getD _ _) q=_;rw [Xw,List.getD_eq_getElem?_getD];simp only [Nat.add_sub_cancel,List.getElem?_concat_length,Option.getD_some];exact CI hq
structure Inv (st:CS):Prop where
 v:∀p q,p<3->q<3->st.v p q=dk st p (st.r p).length q
 own:∀p k,p<3->k<=(st.r p).length->dk st p k p=k+1
 le:∀p k q,p<3->q<3->k<=(st.r p).length->dk st p k q<=(st.r q).length+1
 mono:∀p k l q,p<3->q<3->k<=l->l<=(st.r p).length->dk st p k q<=dk st p l q
theorem OkD.i{st:CS}{d:D3}(ok:OkD st d):d.1.toNat<3:=by have:=ok.i0;have:=ok.i3;omega
theorem OkD.j{st:CS}{d:D3}(ok:OkD st d):d.2.1.toNat<3:=by have:=ok.j0;have:=ok.j3;omega
theorem Qf{st:CS}{d:D3}{q:Nat}(I:Inv st)(ok:OkD st d)(hq:q<3):nvF st d q=max (dk st d.1.toNat (st.r d.1.toNat).length q) (dk st d.2.1.toNat d.2.2.toNat q)+(if d.1.toNat=q then 1 else 0):=by
 unfold nvF hvF;rw [I.v _ _ ok.i hq];have e:(cond (d.1.toNat==q) 1 0:Nat)=if d.1.toNat=q then 1 else 0:=by
  by_cases h:d.1.toNat=q
  ·rw [if_pos h,beq_iff_eq.mpr h];rfl
  ·rw [if_neg h,(beq_eq_false_iff_ne (b:=q)).mpr h];rfl
 rw [e]
 congr 1
 have hm:=ok.m0
 by_cases h:0<d.2.2
 ·rw [if_pos h]
  congr 1
  unfold dk;rw [if_neg (by omega)]
  congr 2
  lia
 ·rw [if_neg h];have e0:d.2.2.toNat=0:=by omega
  rw [e0];have h1:dk st d.2.1.toNat 0 q=dk st d.1.toNat 0 q:=rfl;have h2:=I.mono d.1.toNat 0 _ q ok.i hq (Nat.zero_le _) (Nat.le_refl (st.r d.1.toNat).length);rw [h1];lia
theorem Run.inv{ds:List D3}{st:CS}(r:Run ds st):Inv st:=by
 induction r with
 | nil=>exact ⟨fun _ _ _ _=>rfl,fun p k _ h=>by
   have:k=0:=Nat.le_zero.mp h;subst this;rfl,fun p k q _ _ h=>by
   have:k=0:=Nat.le_zero.mp h;subst this;exact Nat.le_refl 1,fun p k l q _ _ h1 h=>by
   have:l=0:=Nat.le_zero.mp h;subst this;have:k=0:=Nat.le_zero.mp h1;subst this;exact Nat.le_refl _⟩
 | @snoc ds st d r ok I=>
  have hi:=ok.i;have hj:=ok.j;have hm:d.2.2.toNat<=(st.r d.2.1.toNat).length:=by have:=ok.m;have:=ok.m0;omega
  have split:∀{p k:Nat},k<=((cstep st d).r p).length->k<=(st.r p).length\/(p=d.1.toNat/\k=(st.r p).length+1):=by
   intro p k h;rw [Yr] at h
   by_cases hp:p=d.1.toNat
   ·rw [if_pos hp] at h
    by_cases hk:k<=(st.r p).length
    ·exact .inl hk
    ·exact .inr ⟨hp,by lia⟩
   ·rw [if_neg hp] at h;exact .inl h
  have nq:=fun {q:Nat} (hq:q<3)=>Qf I ok hq;refine ⟨?_,?_,?_,?_⟩
  ·intro p q hp hq;show upd st.v d.1.toNat _ p q=_
   by_cases e:p=d.1.toNat
   ·subst e;rw [Xw,Yr,if_pos rfl,Jw hq]
   ·rw [XU e,Yr,if_neg e,Nat.add_zero,Zz (Nat.le_refl _)];exact I.v p q hp hq
  ·intro p k hp hk;rcases split hk with h | ⟨h1,h2⟩
   ·rw [Zz h];exact I.own p k hp h
   ·subst h1 h2;rw [Jw hp,nq hp,if_pos rfl,I.own _ _ hp (Nat.le_refl _)];have:=I.le _ _ d.1.toNat hj hi hm;lia
  ·intro p k q hp hq hk;have hl:((cstep st d).r q).length=(st.r q).length+(if q=d.1.toNat then 1 else 0):=Yr;rcases split hk with h | ⟨h1,h2⟩
   ·rw [Zz h,hl];have:=I.le p k q hp hq h;lia
   ·subst h1 h2;rw [Jw hq,nq hq,hl];have a1:=I.le _ _ q hp hq (Nat.le_refl _);have a2:=I.le _ _ q hj hq hm
    by_cases e:d.1.toNat=q
    ·rw [if_pos e,if_pos e.symm];omega
    ·rw [if_neg e,if_neg (Ne.symm e)];omega
  ·intro p k l q hp hq h hl;rcases split hl with h1 | ⟨h1,h2⟩
   ·rw [Zz h1,Zz (Nat.le_trans h h1)];exact I.mono p k l q hp hq h h1
   ·rcases split (Nat.le_trans h hl) with h3 | ⟨_,h4⟩
    ·subst h1 h2;rw [Jw hq,Zz h3,nq hq];have:=I.mono _ k _ q hp hq h3 (Nat.le_refl _);omega
    ·rw [h2,h4];exact Nat.le_refl _
structure KI (st:CS) (cut:List Int) (K C:List Int):Prop where
 lk:K.length=3
 lc:C.length=3
 c:∀p,p<3->C.getD p 0=(st.r p).length
 k0:∀p,p<3->0<=K.getD p 0
 kc:∀p,p<3->K.getD p 0<=(st.r p).length
 b:∀p k,p<3->k<=(st.r p).length->((∀q,q<3->(dk st p k q:Int)<=cut.getD q 0+1)↔(k:Int)<=K.getD p 0)
theorem Zs{l:List Int}{i p:Nat}{x:Int}(hl:l.length=3)(hp:p<3):(l.set i x).getD p 0=if i=p then x else l.getD p 0:=by
 simp only [List.getD_eq_getElem?_getD,List.getElem?_set,hl]
 by_cases h:i=p
 ·subst h;simp [hp]
 ·simp [h]
theorem Run.kept{ds:List D3}{st:CS}{cut:List Int}(hc:∀q,q<3->0<=cut.getD q 0)(r:Run ds st):KI st cut (ds.foldl (keptStep cut) ([0,0,0],[0,0,0])).1 (ds.foldl (keptStep cut) ([0,0,0],[0,0,0])).2:=by
 induction r with
 | nil=>
  have z:∀p,p<3->([0,0,0]:List Int).getD p 0=0:=by
   intro p hp;rcases lt3 (by assumption) with rfl | rfl | rfl<;>rfl
  refine ⟨rfl,rfl,z,fun p hp=>?_,fun p hp=>?_,fun p k hp hk=>?_⟩
  ·show 0<=([0,0,0]:List Int).getD p 0;rw [z p hp];exact Int.le_refl _
  ·show ([0,0,0]:List Int).getD p 0<=0;rw [z p hp];exact Int.le_refl _
  ·have:k=0:=Nat.le_zero.mp hk;subst this;show _↔_<=([0,0,0]:List Int).getD p 0;rw [z p hp];refine ⟨fun _=>Int.le_refl _,fun _ q hq=>?_⟩;have:=hc q hq;show (1:Int)<=_;omega
 | @snoc ds st d r ok I=>
  have V:=r.inv;rw [List.foldl_append];generalize (ds.foldl (keptStep cut) ([0,0,0],[0,0,0]))=kc at I ⊢;obtain ⟨K,C⟩:=kc;show KI (cstep st d) cut (keptStep cut (K,C) d).1 (keptStep cut (K,C) d).2;have hi:=ok.i;have hj:=ok.j;have hm0:=ok.m0;have hm:d.2.2.toNat<=(st.r d.2.1.toNat).length:=by have:=ok.m;omega
  have ci:C.getD d.1.toNat 0=(st.r d.1.toNat).length:=I.c _ hi;have lk:K.length=3:=I.lk;have lc:C.length=3:=I.lc;have kci:K.getD d.1.toNat 0<=(st.r d.1.toNat).length:=I.kc _ hi;have bi:=fun _:Unit=>I.b d.1.toNat (st.r d.1.toNat).length hi (Nat.le_refl _);have bj:=fun _:Unit=>I.b d.2.1.toNat d.2.2.toNat hj hm;have key:Unit->((∀q,q<3->(nvF st d q:Int)<=cut.getD q 0+1)↔(C.getD d.1.toNat 0+1<=cut.getD d.1.toNat 0/\K.getD d.1.toNat 0=C.getD d.1.toNat 0+1 - 1/\d.2.2<=K.getD d.2.1.toNat 0)):=by
   intro _;have o1:=V.own d.1.toNat _ hi (Nat.le_refl _);have o2:=V.le d.2.1.toNat d.2.2.toNat d.1.toNat hj hi hm;constructor
   ·intro h;have h1:∀q,q<3->(dk st d.1.toNat (st.r d.1.toNat).length q:Int)<=cut.getD q 0+1:=fun q hq=>by
     have:=h q hq;rw [Qf V ok hq] at this;omega
    have h2:∀q,q<3->(dk st d.2.1.toNat d.2.2.toNat q:Int)<=cut.getD q 0+1:=fun q hq=>by
     have:=h q hq;rw [Qf V ok hq] at this;omega
    have h3:=h d.1.toNat hi;rw [Qf V ok hi,if_pos rfl] at h3;have h4:=(bi ()).mp h1;have h5:=(bj ()).mp h2;have h6:K.getD d.1.toNat 0=_:=Int.le_antisymm kci h4;refine ⟨by omega,by lia,?_⟩;have h5':((d.2.2.toNat:Nat):Int)<=K.getD d.2.1.toNat 0:=h5;omega
   ·rintro ⟨h1,h2,h3⟩ q hq;have h4:=(bi ()).mpr (by show _<=K.getD _ 0;lia) q hq;have h5:=(bj ()).mpr (by show _<=K.getD _ 0;omega) q hq;rw [Qf V ok hq]
    by_cases e:d.1.toNat=q
    ·subst e;rw [if_pos rfl];omega
    ·rw [if_neg e];omega
  have fin:∀K',K'.length=3->(∀p,p<3->K'.getD p 0=if d.1.toNat=p/\(∀q,q<3->(nvF st d q:Int)<=cut.getD q 0+1) then C.getD d.1.toNat 0+1 else K.getD p 0)->KI (cstep st d) cut K' (C.set d.1.toNat (C.getD d.1.toNat 0+1)):=by
   intro K' l' e';have eC:∀p,p<3->(C.set d.1.toNat (C.getD d.1.toNat 0+1)).getD p 0=((cstep st d).r p).length:=by
    intro p hp;rw [Zs lc hp,Yr]
    by_cases e:d.1.toNat=p
    ·subst e;rw [if_pos rfl,if_pos rfl,ci];lia
    ·rw [if_neg e,if_neg (Ne.symm e)];have:=I.c p hp;exact this
   refine ⟨l',by rw [List.length_set];exact lc,eC,fun p hp=>?_,fun p hp=>?_,fun p k hp hk=>?_⟩
   ·rw [e' p hp];have:0<=K.getD p 0:=I.k0 p hp
    split<;>omega
   ·rw [e' p hp,Yr];have:K.getD p 0<=_:=I.kc p hp
    split
    ·rename_i h;obtain ⟨h,_⟩:=h;subst h;rw [if_pos rfl];omega
    ·split<;>omega
   ·rw [Yr] at hk;have h3:K.getD p 0<=_:=I.kc p hp
    by_cases hkl:k<=(st.r p).length
    ·have e:∀q,dk (cstep st d) p k q=dk st p k q:=fun q=>Zz hkl;simp only [e];rw [I.b p k hp hkl,e' p hp];show _<=K.getD p 0↔_
     split
     ·rename_i h;obtain ⟨h,hq⟩:=h;have:=((key ()).mp hq).2.1;subst h;omega
     ·exact Iff.rfl
    ·by_cases e:p=d.1.toNat
     ·subst e;rw [if_pos rfl] at hk;have hk':k=(st.r d.1.toNat).length+1:=by lia
      subst hk';rw [e' _ hp];have eq:(∀q,q<3->(dk (cstep st d) d.1.toNat ((st.r d.1.toNat).length+1) q:Int)<=cut.getD q 0+1)↔(∀q,q<3->(nvF st d q:Int)<=cut.getD q 0+1):=
       ⟨fun h q hq=>by have:=h q hq;rwa [Jw hq] at this,fun h q hq=>by rw [Jw hq];exact h q hq⟩
      rw [eq]
      by_cases hh:∀q,q<3->(nvF st d q:Int)<=cut.getD q 0+1
      ·rw [if_pos ⟨rfl,hh⟩];exact ⟨fun _=>by omega,fun _=>hh⟩
      ·rw [if_neg (fun x=>hh x.2)];exact ⟨fun x=>absurd x hh,fun x=>by omega⟩
     ·rw [if_neg e] at hk;omega
  unfold keptStep;dsimp only
  by_cases hh:∀q,q<3->(nvF st d q:Int)<=cut.getD q 0+1
  ·rw [if_pos ((key ()).mp hh)];refine fin _ (by rw [List.length_set];exact lk) fun p hp=>?_;rw [Zs lk hp]
   by_cases e:d.1.toNat=p
   ·rw [if_pos e,if_pos ⟨e,hh⟩]
   ·rw [if_neg e,if_neg (fun x=>e x.1)]
  ·rw [if_neg (fun x=>hh ((key ()).mpr x))];exact fin _ lk fun p hp=>by rw [if_neg (fun x=>hh x.2)]
theorem Ue{st:CS}{p i q:Nat}{x:N3}(h:(st.r p)[i]? =some x):dk st p (i+1) q=g3 x q:=by
 unfold dk;rw [if_neg (Nat.succ_ne_zero _),List.getD_eq_getElem?_getD,Nat.add_sub_cancel,h];rfl
theorem Lw{x:N3}{c:V3}:beyV (v3n x) c=false↔∀q,q<3->(g3 x q:Int)<=([c.1,c.2.1,c.2.2]:List Int).getD q 0+1:=by
 unfold beyV beyB3 v3n;simp only [Bool.or_eq_false_iff,decide_eq_false_iff_not];constructor
 ·rintro ⟨h0,h1,h2⟩ q hq;rcases lt3 (by assumption) with rfl | rfl | rfl
  ·show (x.1:Int)<=c.1+1;omega
  ·show (x.2.1:Int)<=c.2.1+1;omega
  ·show (x.2.2:Int)<=c.2.2+1;omega
 ·intro h;have h0:(x.1:Int)<=c.1+1:=h 0 (by decide);have h1:(x.2.1:Int)<=c.2.1+1:=h 1 (by decide);have h2:(x.2.2:Int)<=c.2.2+1:=h 2 (by decide);refine ⟨?_,?_,?_⟩<;>omega
theorem Fu{c:V3}(h0:0<=c.1)(h1:0<=c.2.1)(h2:0<=c.2.2):∀q,q<3->0<=([c.1,c.2.1,c.2.2]:List Int).getD q 0:=by
 intro q hq;rcases lt3 (by assumption) with rfl | rfl | rfl
 ·exact h0
 ·exact h1
 ·exact h2
theorem Run.key{ds:List D3}{st:CS}{c:V3}(r:Run ds st)(h0:0<=c.1)(h1:0<=c.2.1)(h2:0<=c.2.2){p:Nat}(hp:p<3)(i:Nat)(x:V3)(hx:((st.r p).map v3n)[i]? =some x):
  beyV x c=decide (((keptF ds [c.1,c.2.1,c.2.2]).getD p 0).toNat<=i):=by
 have I:=r.kept (Fu h0 h1 h2);rw [List.getElem?_map] at hx;cases hy:(st.r p)[i]? with
 | none=>rw [hy] at hx;cases hx
 | some y=>
  rw [hy] at hx;cases hx;have hl:i+1<=(st.r p).length:=(List.getElem?_eq_some_iff.mp hy).1;have b:=I.b p (i+1) hp hl;simp only [Ue hy] at b;rw [←Lw] at b;have kn:0<=(keptF ds [c.1,c.2.1,c.2.2]).getD p 0:=I.k0 p hp;have b':beyV (v3n y) c=false↔((i+1:Nat):Int)<=(keptF ds [c.1,c.2.1,c.2.2]).getD p 0:=b;cases hb:beyV (v3n y) c with
  | false=>
   have:=b'.mp hb;exact (decide_eq_false (by omega)).symm
  | true=>
   have: ¬((i+1:Nat):Int)<=(keptF ds [c.1,c.2.1,c.2.2]).getD p 0:=fun z=>by rw [b'.mpr z] at hb;cases hb
   exact (decide_eq_true (by omega)).symm
theorem SC{l:List Int}(h:l.length=3):l=[l.getD 0 0,l.getD 1 0,l.getD 2 0]:=by
 obtain ⟨a,b,c,rfl⟩:=Eb h
 rfl
theorem Run.keptL{ds:List D3}{st:CS}{c:V3}(r:Run ds st)(h0:0<=c.1)(h1:0<=c.2.1)(h2:0<=c.2.2):∃k0 k1 k2:Nat,keptF ds [c.1,c.2.1,c.2.2]=[(k0:Int),(k1:Int),(k2:Int)]/\k0<=(st.r 0).length/\k1<=(st.r 1).length/\k2<=(st.r 2).length/\
  (∀(i:Nat) (x:V3),((st.r 0).map v3n)[i]? =some x->beyV x c=decide (k0<=i))/\(∀(i:Nat) (x:V3),((st.r 1).map v3n)[i]? =some x->beyV x c=decide (k1<=i))/\(∀(i:Nat) (x:V3),((st.r 2).map v3n)[i]? =some x->beyV x c=decide (k2<=i)):=by
 have I:=r.kept (Fu h0 h1 h2);have kn:∀p,p<3->0<=(keptF ds [c.1,c.2.1,c.2.2]).getD p 0:=I.k0;have kc:∀p,p<3->(keptF ds [c.1,c.2.1,c.2.2]).getD p 0<=(st.r p).length:=I.kc;refine ⟨_,_,_,?_,?_,?_,?_,r.key h0 h1 h2 (p:=0) (by decide),r.key h0 h1 h2 (p:=1) (by decide),r.key h0 h1 h2 (p:=2) (by decide)⟩
 ·rw [Int.toNat_of_nonneg (kn 0 (by decide)),Int.toNat_of_nonneg (kn 1 (by decide)),Int.toNat_of_nonneg (kn 2 (by decide))];exact SC I.lk
 ·have:=kc 0 (by decide);have:=kn 0 (by decide);omega
 ·have:=kc 1 (by decide);have:=kn 1 (by decide);omega
 ·have:=kc 2 (by decide);have:=kn 2 (by decide);omega
noncomputable def mx3(f:Nat->Int):Int:=max (f 0) (max (f 1) (f 2))
noncomputable def ca(st:CS)(T:List Int)(p q:Nat):Int:=(dk st p (min (T.getD p 0).toNat (st.r p).length) q:Int) - 1
noncomputable def ZO(st:CS)(T:List Int)(q:Nat):Int:=max (T.getD q 0) (mx3 fun p=>ca st T p q)
theorem FA{st:CS}{d:D3}{T:List Int}{p q:Nat}(h:p≠d.1.toNat\/T.getD p 0<=(st.r p).length):ca (cstep st d) T p q=ca st T p q:=by
 unfold ca;rw [Yr]
 by_cases e:p=d.1.toNat
 ·rw [if_pos e];have h:=h.resolve_left (not_not_intro e);have t:=Int.toNat_le.mpr h;rw [Nat.min_eq_left (Nat.le_succ_of_le t),Nat.min_eq_left t,Zz t]
 ·rw [if_neg e,Nat.add_zero,Zz (Nat.min_le_right _ _)]
theorem Lv{st:CS}{d:D3}{T:List Int}{q:Nat}(hq:q<3)(h:((st.r d.1.toNat).length:Int)+1<=T.getD d.1.toNat 0):ca (cstep st d) T d.1.toNat q=(nvF st d q:Int) - 1:=by
 unfold ca;rw [Yr,if_pos rfl,Nat.min_eq_right (by omega),Jw hq]
theorem D9{f:Nat->Int}{b:Int}:mx3 f<=b↔∀p,p<3->f p<=b:=by
 unfold mx3;constructor
 ·intro h p hp;rcases lt3 (by assumption) with rfl | rfl | rfl<;>omega
 ·intro h;have:=h 0 (by decide);have:=h 1 (by decide);have:=h 2 (by decide);omega
theorem aroT_le{st:CS}{T:List Int}{q:Nat}{b:Int}:ZO st T q<=b↔T.getD q 0<=b/\∀p,p<3->ca st T p q<=b:=by
 unfold ZO;rw [Int.max_le,D9]
theorem Run.taken{ds:List D3}{st:CS}(r:Run ds st):∀(T:List Int),T.length=3->(∀p,p<3->0<=T.getD p 0)->
  ∀C:List Int,C.length=3->(∀p,p<3->C.getD p 0=(st.r p).length)->(ds.reverse.foldl takStep (T,C)).1.length=3/\∀q,q<3->(ds.reverse.foldl takStep (T,C)).1.getD q 0=ZO st T q:=by
 induction r with
 | nil=>
  intro T hT h0 C hC hc;refine ⟨hT,fun q hq=>?_⟩;show T.getD q 0=_;refine Int.le_antisymm ?_ ?_
  ·exact (aroT_le.mp (Int.le_refl _)).1
  ·refine aroT_le.mpr ⟨Int.le_refl _,fun p hp=>?_⟩;have:=h0 q hq;have e:ca cs0 T p q=0:=by
    unfold ca;rw [show min (T.getD p 0).toNat (cs0.r p).length=0 from Nat.min_zero _];rfl
   omega
 | @snoc ds st d r ok ih=>
  intro T hT h0 C hC hc;have V:=r.inv;have V':=(Run.snoc r ok).inv;have hi:=ok.i;have hj:=ok.j;have hm0:=ok.m0;have hm:d.2.2.toNat<=(st.r d.2.1.toNat).length:=by have:=ok.m;omega
  rw [List.reverse_append];show (ds.reverse.foldl takStep (takStep (T,C) d)).1.length=3/\∀q,q<3->(ds.reverse.foldl takStep (takStep (T,C) d)).1.getD q 0=_;have hci:C.getD d.1.toNat 0=(st.r d.1.toNat).length+1:=by
   rw [hc _ hi,Yr,if_pos rfl];rfl
  have hC':(C.set d.1.toNat (C.getD d.1.toNat 0 - 1)).length=3:=by rw [List.length_set];exact hC
  have hc':∀p,p<3->(C.set d.1.toNat (C.getD d.1.toNat 0 - 1)).getD p 0=(st.r p).length:=by
   intro p hp;rw [Zs hC hp]
   by_cases e:d.1.toNat=p
   ·subst e;rw [if_pos rfl,hci];lia
   ·rw [if_neg e,hc p hp,Yr,if_neg (Ne.symm e)];rfl
  rw [show takStep (T,C) d=(if C.getD d.1.toNat 0<=T.getD d.1.toNat 0/\d.2.2>T.getD d.2.1.toNat 0 then T.set d.2.1.toNat d.2.2 else T,C.set d.1.toNat (C.getD d.1.toNat 0 - 1)) from rfl]
  by_cases h1:C.getD d.1.toNat 0<=T.getD d.1.toNat 0
  ·
   have hT':(if C.getD d.1.toNat 0<=T.getD d.1.toNat 0/\d.2.2>T.getD d.2.1.toNat 0 then T.set d.2.1.toNat d.2.2 else T)=T.set d.2.1.toNat (max (T.getD d.2.1.toNat 0) d.2.2):=by
    by_cases h2:d.2.2>T.getD d.2.1.toNat 0
    ·rw [if_pos ⟨h1,h2⟩,Int.max_eq_right (Int.le_of_lt h2)]
    ·rw [if_neg (fun x=>h2 x.2),Int.max_eq_left (by omega)];refine List.ext_getElem? fun k=>?_;rw [List.getElem?_set]
     by_cases e:d.2.1.toNat=k
     ·subst e;rw [if_pos rfl,hT,if_pos hj,List.getD_eq_getElem?_getD];rw [List.getElem?_eq_getElem (by omega)];rfl
     ·rw [if_neg e]
   rw [hT'];have lT:(T.set d.2.1.toNat (max (T.getD d.2.1.toNat 0) d.2.2)).length=3:=by rw [List.length_set];exact hT
   have gT:∀p,p<3->(T.set d.2.1.toNat (max (T.getD d.2.1.toNat 0) d.2.2)).getD p 0=if d.2.1.toNat=p then max (T.getD d.2.1.toNat 0) d.2.2 else T.getD p 0:=fun p hp=>Zs hT hp
   generalize T.set d.2.1.toNat (max (T.getD d.2.1.toNat 0) d.2.2)=T' at lT gT ⊢;have n0:∀p,p<3->0<=T'.getD p 0:=fun p hp=>by
    rw [gT p hp];have:=h0 p hp
    split<;>omega
   obtain ⟨a1,a2⟩:=ih T' lT n0 _ hC' hc';refine ⟨a1,fun q hq=>?_⟩;rw [a2 q hq];have gi:T.getD d.1.toNat 0<=T'.getD d.1.toNat 0:=by
    rw [gT _ hi]
    split
    ·rename_i e;rw [e];omega
    ·exact Int.le_refl _
   
   have cai:ca (cstep st d) T d.1.toNat q=(nvF st d q:Int) - 1:=Lv hq (by omega);have cai':ca st T' d.1.toNat q=(dk st d.1.toNat (st.r d.1.toNat).length q:Int) - 1:=by
    unfold ca;rw [Nat.min_eq_right (by omega)]
   have nq:=Qf V ok hq;have caj:Unit->d.1.toNat≠d.2.1.toNat->ca st T' d.2.1.toNat q=max (ca st T d.2.1.toNat q) ((dk st d.2.1.toNat d.2.2.toNat q:Int) - 1):=by
    intro _ ne;unfold ca;rw [gT _ hj,if_pos rfl]
    by_cases h2:d.2.2<=T.getD d.2.1.toNat 0
    ·rw [Int.max_eq_left h2];have:=V.mono d.2.1.toNat d.2.2.toNat (min (T.getD d.2.1.toNat 0).toNat (st.r d.2.1.toNat).length) q hj hq (by omega) (Nat.min_le_right _ _);omega
    ·rw [Int.max_eq_right (by omega)];rw [Nat.min_eq_left hm];have:=V.mono d.2.1.toNat (min (T.getD d.2.1.toNat 0).toNat (st.r d.2.1.toNat).length) d.2.2.toNat q hj hq (by omega) hm;omega
   have cap:∀p,p<3->p≠d.1.toNat->p≠d.2.1.toNat->ca st T' p q=ca (cstep st d) T p q:=by
    intro p hp n1 n2;rw [FA (.inl n1)];unfold ca;rw [gT p hp,if_neg (Ne.symm n2)]
   have lowT:∀p,p<3->q=d.1.toNat->(ca st T' p q:Int)<=T.getD q 0:=by
    intro p hp e;have:=V.le p (min (T'.getD p 0).toNat (st.r p).length) q hp hq (Nat.min_le_right _ _);subst e;unfold ca;omega
   have same:Unit->d.1.toNat=d.2.1.toNat->d.2.2=0:=fun _ e=>ok.s (by have:=ok.i0;have:=ok.j0;lia);have jm:(dk st d.2.1.toNat d.2.2.toNat d.2.1.toNat:Int)=d.2.2+1:=by
    rw [V.own _ _ hj hm];omega
   have own1:=V.own d.1.toNat _ hi (Nat.le_refl _);have jle:=V.le d.2.1.toNat d.2.2.toNat d.1.toNat hj hi hm;refine Int.le_antisymm ?_ ?_
   ·refine aroT_le.mpr ⟨?_,fun p hp=>?_⟩
    ·have b1:=(aroT_le.mp (Int.le_refl (ZO (cstep st d) T q))).1;have b2:=(aroT_le.mp (Int.le_refl (ZO (cstep st d) T q))).2 d.1.toNat hi;rw [cai,nq] at b2;rw [gT q hq]
     split
     ·rename_i e;subst e;omega
     ·exact b1
    ·have b1:=(aroT_le.mp (Int.le_refl (ZO (cstep st d) T q))).1;have b2:=(aroT_le.mp (Int.le_refl (ZO (cstep st d) T q))).2 d.1.toNat hi;rw [cai,nq] at b2
     by_cases e1:p=d.1.toNat
     ·rw [e1,cai'];omega
     ·by_cases e2:p=d.2.1.toNat
      ·have b3:=(aroT_le.mp (Int.le_refl (ZO (cstep st d) T q))).2 p hp;rw [FA (.inl e1)] at b3;rw [e2] at e1 b3 ⊢;rw [caj () (Ne.symm e1)];omega
      ·rw [cap p hp e1 e2];exact (aroT_le.mp (Int.le_refl (ZO (cstep st d) T q))).2 p hp
   ·have b1:=(aroT_le.mp (Int.le_refl (ZO st T' q))).1;have b1':T.getD q 0<=ZO st T' q:=by
     refine Int.le_trans ?_ b1;rw [gT q hq]
     split
     ·rename_i e;rw [e];omega
     ·exact Int.le_refl _
    refine aroT_le.mpr ⟨b1',fun p hp=>?_⟩
    by_cases e1:p=d.1.toNat
    ·rw [e1,cai,nq];have b2:=(aroT_le.mp (Int.le_refl (ZO st T' q))).2 d.1.toNat hi;rw [cai'] at b2
     by_cases eq:d.1.toNat=q
     ·subst eq;rw [if_pos rfl];omega
     ·rw [if_neg eq]
      by_cases ij:d.1.toNat=d.2.1.toNat
      ·have mz:=same () ij;have:=V.mono d.1.toNat 0 (st.r d.1.toNat).length q hi hq (Nat.zero_le _) (Nat.le_refl _);rw [mz,←ij];show _<=_;have z:(0:Int).toNat=0:=rfl;rw [z];omega
      ·have b3:=(aroT_le.mp (Int.le_refl (ZO st T' q))).2 d.2.1.toNat hj;rw [caj () ij] at b3;omega
    ·by_cases e2:p=d.2.1.toNat
     ·have b3:=(aroT_le.mp (Int.le_refl (ZO st T' q))).2 p hp;rw [FA (.inl e1)];rw [e2] at e1 b3 ⊢;rw [caj () (Ne.symm e1)] at b3;omega
     ·rw [←cap p hp e1 e2];exact (aroT_le.mp (Int.le_refl (ZO st T' q))).2 p hp
  ·rw [if_neg (fun x=>h1 x.1)];obtain ⟨a1,a2⟩:=ih T hT h0 _ hC' hc';refine ⟨a1,fun q hq=>?_⟩;rw [a2 q hq];have e:∀p,ca (cstep st d) T p q=ca st T p q:=fun p=>FA (by
    by_cases e:p=d.1.toNat
    ·right;rw [e];omega
    ·exact .inl e)
   unfold ZO;simp only [e]
theorem Run.cnt{ds:List D3}{st:CS}(r:Run ds st):∀p:Nat,p<3->cntD ds (p:Int)=(st.r p).length:=by
 induction r with
 | nil=>intro p _;rfl
 | @snoc ds st d r ok ih=>
  intro p hp;unfold cntD;rw [List.filter_append,List.length_append];have:=ih p hp;unfold cntD at this;rw [this,Yr]
  congr 1
  have:=ok.i0
  by_cases e:p=d.1.toNat
  ·rw [if_pos e,List.filter_cons,if_pos (by rw [beq_iff_eq];omega)];rfl
  ·rw [if_neg e,List.filter_cons,if_neg (by rw [beq_iff_eq];lia)];rfl
theorem NH(y:Int)(l:List Int):∀b,mxL (y::l)<=b↔y<=b/\∀x∈l,x<=b:=by
 unfold mxL;dsimp only
 induction l generalizing y with
 | nil=>intro b;exact ⟨fun h=>⟨h,fun _ hx=>(nomatch hx)⟩,fun h=>h.1⟩
 | cons z l ih=>
  intro b;rw [List.foldl_cons,ih];constructor
  ·rintro ⟨h1,h2⟩;refine ⟨?_,fun x hx=>?_⟩
   ·split at h1<;>omega
   ·rcases List.mem_cons.mp hx with rfl | hx
    ·split at h1<;>omega
    ·exact h2 x hx
  ·rintro ⟨h1,h2⟩;refine ⟨?_,fun x hx=>h2 x (.tail _ hx)⟩;have:=h2 z (.head _)
   split<;>omega
theorem Mb{st:CS}{p q:Nat}{c b:Int}{f:V3->Int}(hf:∀x:N3,f (v3n x)=(g3 x q:Int) - 1)(h0:0<=c)(hl:c<=(st.r p).length)(hb:0<=b):
  (∀x∈(selV ((st.r p).map v3n) c).map f,x<=b)↔(dk st p (min c.toNat (st.r p).length) q:Int) - 1<=b:=by
 unfold selV;rw [Nat.min_eq_left (Int.toNat_le.mpr hl)]
 by_cases h:c>0
 ·rw [if_pos h];have hlt:(c - 1).toNat<(st.r p).length:=by omega
  have e:(st.r p)[(c - 1).toNat]? =some (st.r p)[(c - 1).toNat]:=List.getElem?_eq_getElem hlt;have e2:=Ue (q:=q) e;rw [show (c - 1).toNat+1=c.toNat by omega] at e2;rw [List.getD_eq_getElem?_getD,List.getElem?_map,e];simp only [Option.map_some,Option.getD_some,List.map_cons,List.map_nil,List.mem_singleton,forall_eq];rw [hf,e2]
 ·rw [if_neg h];have:c=0:=by omega
  subst this;refine ⟨fun _=>?_,fun _ x hx=>(nomatch hx)⟩;show (1:Int) - 1<=b;omega
theorem M9{ds:List D3}{st:CS}(r:Run ds st){c:V3}(h0:0<=c.1)(h1:0<=c.2.1)(h2:0<=c.2.2)(l0:c.1<=(st.r 0).length)(l1:c.2.1<=(st.r 1).length)(l2:c.2.2<=(st.r 2).length){q:Nat}(hq:q<3)
  {f:V3->Int}(hf:∀x:N3,f (v3n x)=(g3 x q:Int) - 1):ZO st [c.1,c.2.1,c.2.2] q=aroM f ((st.r 0).map v3n) ((st.r 1).map v3n) ((st.r 2).map v3n) c:=by
 have V:=r.inv;have key:∀b,0<=b->(aroM f ((st.r 0).map v3n) ((st.r 1).map v3n) ((st.r 2).map v3n) c<=b↔∀p,p<3->ca st [c.1,c.2.1,c.2.2] p q<=b):=by
  intro b hb;unfold aroM ZP;rw [NH];simp only [List.map_append,List.mem_append,or_imp,forall_and];rw [Mb hf h0 l0 hb,Mb hf h1 l1 hb,Mb hf h2 l2 hb];constructor
  ·rintro ⟨_,a0,a1,a2⟩ p hp;rcases lt3 (by assumption) with rfl | rfl | rfl
   ·exact a0
   ·exact a1
   ·exact a2
  ·intro h;exact ⟨hb,h 0 (by decide),h 1 (by decide),h 2 (by decide)⟩
 have nn:0<=aroM f ((st.r 0).map v3n) ((st.r 1).map v3n) ((st.r 2).map v3n) c:=((NH _ _ _).mp (Int.le_refl _)).1;have own:([c.1,c.2.1,c.2.2]:List Int).getD q 0<=ca st [c.1,c.2.1,c.2.2] q q:=by
  unfold ca;have hh:([c.1,c.2.1,c.2.2]:List Int).getD q 0<=(st.r q).length:=by
   rcases lt3 (by assumption) with rfl | rfl | rfl
   ·exact l0
   ·exact l1
   ·exact l2
  have:=V.own q _ hq (Nat.min_le_right (([c.1,c.2.1,c.2.2]:List Int).getD q 0).toNat (st.r q).length);rw [this];lia
 have nnq:=Fu h0 h1 h2 q hq;refine Int.le_antisymm ?_ ?_
 ·have k:=(key _ nn).mp (Int.le_refl _);exact aroT_le.mpr ⟨Int.le_trans own (k q hq),k⟩
 ·obtain ⟨a1,a2⟩:=aroT_le.mp (Int.le_refl (ZO st [c.1,c.2.1,c.2.2] q));exact (key _ (Int.le_trans nnq a1)).mpr a2
theorem Run.takL{ds:List D3}{st:CS}(r:Run ds st){c:V3}(h0:0<=c.1)(h1:0<=c.2.1)(h2:0<=c.2.2)(l0:c.1<=(st.r 0).length)(l1:c.2.1<=(st.r 1).length)(l2:c.2.2<=(st.r 2).length):
  takF ds c=[aroM (·.1) ((st.r 0).map v3n) ((st.r 1).map v3n) ((st.r 2).map v3n) c,aroM (·.2.1) ((st.r 0).map v3n) ((st.r 1).map v3n) ((st.r 2).map v3n) c,aroM (·.2.2) ((st.r 0).map v3n) ((st.r 1).map v3n) ((st.r 2).map v3n) c]:=by
 obtain ⟨a1,a2⟩:=r.taken [c.1,c.2.1,c.2.2] rfl (Fu h0 h1 h2) [(cntD ds 0:Int),(cntD ds 1:Int),(cntD ds 2:Int)] rfl (fun p hp=>by
  have e0:=r.cnt 0 (by decide);have e1:=r.cnt 1 (by decide);have e2:=r.cnt 2 (by decide);rcases lt3 (by assumption) with rfl | rfl | rfl
  ·exact congrArg Int.ofNat e0
  ·exact congrArg Int.ofNat e1
  ·exact congrArg Int.ofNat e2)
 have e:=SC a1;rw [a2 0 (by decide),a2 1 (by decide),a2 2 (by decide)] at e;unfold takF;rw [e,M9 r h0 h1 h2 l0 l1 l2 (q:=0) (f:=(·.1)) (by decide) (fun _=>rfl),M9 r h0 h1 h2 l0 l1 l2 (q:=1) (f:=(·.2.1)) (by decide) (fun _=>rfl),M9 r h0 h1 h2 l0 l1 l2 (q:=2) (f:=(·.2.2)) (by decide) (fun _=>rfl)]
theorem Qv:∀(xs:List Int) (counts:List Int) (ds:List D3) (st:CS),Run ds st->counts.length=3->(∀p,p<3->counts.getD p 0=(st.r p).length)->∃st',Run (xs.foldl Yx (counts,ds)).2 st'
 | [],counts,ds,st,r,_,_=>⟨st,r⟩
 | x::xs,counts,ds,st,r,hl,hc=>by
  rw [List.foldl_cons];have m0:=Int.fmod_nonneg_of_pos x (show (0:Int)<3 by decide);have m3:=Int.fmod_lt_of_pos x (show (0:Int)<3 by decide);have k0:=Int.fmod_nonneg_of_pos (x.fdiv 3) (show (0:Int)<3 by decide);have k3:=Int.fmod_lt_of_pos (x.fdiv 3) (show (0:Int)<3 by decide);have hj:=hc ((x.fdiv 3).fmod 3).toNat (by omega);have ok:OkD st (deedOf counts x):=by
   refine ⟨m0,m3,k0,k3,?_,?_,?_⟩
   ·show (0:Int)<=(if (x.fdiv 3).fmod 3≠x.fmod 3 then (x.fdiv 9).fmod (counts.getD ((x.fdiv 3).fmod 3).toNat 0+1) else 0)
    split
    ·exact Int.fmod_nonneg_of_pos _ (by omega)
    ·exact Int.le_refl _
   ·show (if (x.fdiv 3).fmod 3≠x.fmod 3 then (x.fdiv 9).fmod (counts.getD ((x.fdiv 3).fmod 3).toNat 0+1) else 0)<=(((st.r ((x.fdiv 3).fmod 3).toNat).length:Nat):Int)
    split
    ·have:=Int.fmod_lt_of_pos (x.fdiv 9) (show (0:Int)<counts.getD ((x.fdiv 3).fmod 3).toNat 0+1 by omega);rw [hj] at this ⊢;omega
    ·omega
   ·intro e;have e':x.fmod 3=(x.fdiv 3).fmod 3:=e;show (if (x.fdiv 3).fmod 3≠x.fmod 3 then _ else _)=(0:Int);rw [if_neg (by rw [e'];exact fun z=>z rfl)]
  refine Qv xs _ _ _ (Run.snoc r ok) (by show (counts.set _ _).length=3;rw [List.length_set];exact hl) fun p hp=>?_;show (counts.set (x.fmod 3).toNat _).getD p 0=_;rw [Zs hl hp,Yr];show _=(((st.r p).length+(if p=(x.fmod 3).toNat then 1 else 0):Nat):Int)
  by_cases e:(x.fmod 3).toNat=p
  ·rw [if_pos e,if_pos e.symm,hc _ (by omega),e];rfl
  ·rw [if_neg e,if_neg (Ne.symm e)];exact hc p hp
theorem MO(xs:List Int):∃st,Run (deedsF xs) st:=Qv xs [0,0,0] [] cs0 .nil rfl (fun p hp=>by
 rcases lt3 (by assumption) with rfl | rfl | rfl<;>rfl)

theorem NG{P:Params}{prog:Program}{w:World}{t n:Nat}{l sl:Addr}{vs:List Value}{e:Nat}{so:Obj}{vl vu:Value}{lo hi:Option Int}{ws:List Value}(hso:so={cls:=.type "slice",data:=.fields #[vl,vu,.none]})(pl:IsPart vl lo)(pu:IsPart vu hi)(hws:(slicePick vs.toArray lo hi none).toList=ws)(hz:vs.length<=sizeLine):
  Ob.Holds P (model prog w) (oB "list.__getitem__" [.ref l,.ref sl] t n (.ref n) (rd:=[(l,listO vs e),(sl,so)]) (al:=[listO ws 0])):=by
 intro A R s _ _ _ ht hn hr hR;obtain rfl:s.toks=t:=ht;obtain rfl:s.heap.objs.size=n:=hn;have ho:=hr (l,listO vs e) (.head _);have hos:=hr (sl,so) (.tail _ (.head _));subst hso;have hl:=XM ho;have hTs:s.TypeIs (.ref sl) "slice":=⟨_,hos,rfl⟩;refine Yt F.slot_list_getitem hl.typeIs F.entry_list_getitem (F.args_list_getitem_2 _ _) ?_;show wpAny _ _ (Builtin.List.listSubscript? (.ref sl) >>= _) _ _ s;refine wpAny_bind ?_;unfold Builtin.List.listSubscript?;refine wpAny_bind (wpAny_specialOf hTs slice_no_index ?_);simp only [Option.isNone_none,if_true];refine wpAny_pure ?_;show wpAny _ _ (typeOf (.ref sl) >>= _) _ _ s;refine wpAny_bind (wpAny_typeOf hTs ?_);rw [if_neg (by decide)];rw [listSliceParts_eq];refine wpAny_bind (wpAny_bind (wpAny_field hos rfl (x:=.none) rfl (wpAny_bind (wpAny_listPart .none ?_))));rw [if_neg (show¬((rawPart none==rawInt 0)=true) from Bool.false_ne_true)];refine wpAny_bind (wpAny_field hos rfl (x:=vl) rfl (wpAny_bind (wpAny_listPart pl ?_)));refine wpAny_bind (wpAny_field hos rfl (x:=vu) rfl (wpAny_bind (wpAny_listPart pu (wpAny_pure ?_))));refine wpAny_bind (m:=Builtin.List.listItems (.ref l)) ?_;unfold Builtin.List.listItems;refine wpAny_bind (wpAny_seqItems ho rfl (wpAny_pure ?_));refine wpAny_bind (wpAny_of_eq (sliceIndices_raw lo hi none _ (by decide)) ?_);refine wpAny_bind (wpAny_newObj_type (wpAny_pure ⟨_,rfl,?_⟩) (Nat.le_trans (slicePick_size_le vs.toArray lo hi none) hz));have e0:({cls:=.type "list",data:=.seq (slicePick vs.toArray lo hi none)}:Obj)=listO ws 0:=by
  subst hws;unfold listO;rw [Ye]
 unfold slicePick at e0;rw [e0];exact hR

section
variable{P:Params}{prog:Program}{w:World}{t n:Nat}
theorem D8{l b:Addr}{vs us ws:List Value}{e e2:Nat}(hw:vs++us=ws)(hz:vs.length+us.length<=sizeLine):
  Ob.Holds P (model prog w) (oB "list.__add__" [.ref l,.ref b] t n (.ref n) (rd:=[(l,listO vs e),(b,listO us e2)]) (al:=[listO ws 0])):=by
 intro A R s _ _ _ ht hn hr hR;obtain rfl:s.toks=t:=ht;obtain rfl:s.heap.objs.size=n:=hn;have ho:=hr (l,listO vs e) (.head _);have ho2:=hr (b,listO us e2) (.tail _ (.head _));have hl:=XM ho;have hb:=XM ho2;refine Yt F.slot_list_add hl.typeIs F.entry_list_add (F.args_list_add_2 _ _) ?_;unfold Builtin.«list.__add__»;refine wpAny_bind (wpAny_pure ?_);refine wpAny_bind (wpAny_isInstance (b:=true) hb.typeIs AutoSeq1.sub_list_list ?_);simp only [Bool.not_true,Bool.false_eq_true,if_false];refine wpAny_bind ?_;unfold Builtin.List.listItems;refine wpAny_bind (wpAny_seqItems ho rfl (wpAny_pure ?_));refine wpAny_bind (wpAny_bind (wpAny_seqItems ho2 rfl (wpAny_pure ?_)));refine wpAny_bind (wpAny_newObj_type (wpAny_pure ⟨_,rfl,?_⟩) (show (vs.toArray++us.toArray).size<=sizeLine by simpa using hz));have e0:({cls:=.type "list",data:=.seq (vs.toArray++us.toArray)}:Obj)=listO ws 0:=by
  subst hw;unfold listO;rw [Ye];simp
 rw [e0];exact hR
end
section
variable{prog:Program}{w:World}{A:Around}{R:Result->Shared->Prop}
theorem FD{I S l:Addr}(hSI:S≠I)(hSl:S≠l)(hIl:l≠I){vs:Array Value}{s0:Shared}:
  ∀(todo:List Int) (us:List Value) (i:Nat) (h:Heap) (tk:Nat) (tA c:Nat) (st acc:Int),A.handled=none->(st=0\/st=2)->Ints us todo->vs.toList.drop i=us->h.IsListIter I l i->h.IsList l vs->h.get? S=some {cls:=.type "list",dict:=none,data:=.seq #[.int acc tA] c,slots:=#[]}->
   (∀h' tk' x t',(∀b o,b≠I->b≠S->h.get? b=some o->h'.get? b=some o)->(∃o,h'.get? S=some o)->R (.ok (.ret (.int x t'))) {s0 with heap:=h',toks:=tk'})-> codeAny (model prog w) A (.builtin "sum.loop" ⟨[.ref I,.ref S,rawInt st,rawInt 0],[]⟩) R {s0 with heap:=h,toks:=tk}
 | [],us,i,h,tk,tA,c,st,acc,hh,hst,hu,hd,hI,hl,hS,hR=>by
  have hn:us=[]:=List.length_eq_zero_iff.mp hu.len;subst hn;have hx:vs[i]? =none:=by
   have:vs.toList.length<=i:=List.drop_eq_nil_iff.mp hd;rw [Array.getElem?_eq_none_iff];simpa using this
  refine codeAny_builtin F.entry_sum_loop ?_;rw [Around.under_plainId F.plain_sum_loop _];show wpAny _ A.in1 (seqItems? (.ref S) >>= _) _ _ _;refine wpAny_bind (wpAny_seqItems hS rfl ?_);show wpAny _ A.in1 (tryCatch (pyNext (.ref I)) _ >>= _) _ _ _;refine wpAny_bind (wpAny_tryCatch (wpAny_pyNext_list_end hh hI hl hx fun h' he=>?_));exact wpAny_pure (hR h' tk acc tA (fun b o hb _ e=>he b o hb e) ⟨_,he S _ hSI hS⟩)
 | y::todo,us,i,h,tk,tA,c,st,acc,hh,hst,hu,hd,hI,hl,hS,hR=>by
  obtain ⟨t,ws,rfl,hw⟩:=hu.tail;have hlt:i<vs.toList.length:=Nat.lt_of_not_le fun hle=>by rw [List.drop_eq_nil_of_le hle] at hd;cases hd
  have hc:vs.toList[i]=.int y t/\vs.toList.drop (i+1)=ws:=by
   rw [List.drop_eq_getElem_cons hlt] at hd;injection hd with h1 h2
   exact ⟨h1,h2⟩
  have hx:vs[i]? =some (.int y t):=by
   rw [←Array.getElem?_toList,List.getElem?_eq_getElem hlt,hc.1]
  refine codeAny_builtin F.entry_sum_loop ?_;rw [Around.under_plainId F.plain_sum_loop _];show wpAny _ A.in1 (seqItems? (.ref S) >>= _) _ _ _;refine wpAny_bind (wpAny_seqItems hS rfl ?_);show wpAny _ A.in1 (tryCatch (pyNext (.ref I)) _ >>= _) _ _ _;refine wpAny_bind (wpAny_tryCatch (wpAny_pyNext_list_item hI hl hx fun h' hi' hs'=>?_));have hS':h'.get? S=some _:=(hs'.2 S hSI).trans hS;have next:∀(h2:Heap) (tk2 tA2 c2:Nat) (st2 acc2:Int),(st2=0\/st2=2)->(∀b,b≠S->h2.get? b=h'.get? b)->h2.get? S=some {cls:=.type "list",dict:=none,data:=.seq #[.int acc2 tA2] c2,slots:=#[]}-> codeAny (model prog w) A (.builtin "sum.loop" ⟨[.ref I,.ref S,rawInt st2,rawInt 0],[]⟩) R {s0 with heap:=h2,toks:=tk2}:=by
   intro h2 tk2 tA2 c2 st2 acc2 q1 q2 q3;refine FD hSI hSl hIl todo ws (i+1) h2 tk2 tA2 c2 st2 acc2 hh q1 hw hc.2 (hi'.at fun o e=>by rw [q2 I (Ne.symm hSI)];exact e) (hl.at fun o e=>by rw [q2 l (Ne.symm hSl),hs'.2 l hIl];exact e) q3 ?_;intro h3 tk3 x t3 k3 e3;exact hR h3 tk3 x t3 (fun b o b1 b2 e=>k3 b o b1 b2 (by rw [q2 b b2,hs'.2 b b1];exact e)) e3
  have up:∀(h1:Heap) (f:Array Value->Array Value),∀b,b≠S->(h1.update S (Obj.mapSeq f)).get? b=h1.get? b:=fun h1 f b hb=>Heap.get?_update_other _ _ (Ne.symm hb);rcases hst with rfl | rfl
  ·show wpAny _ A.in1 (if (_:Bool)=true then (mkInt (acc+y) >>= _) else _) _ _ _
   split
   ·refine wpAny_bind (wpAny_mkInt ?_);show wpAny _ A.in1 (updateSeq S (fun _=>#[.int (acc+y) tk]) >>= _) _ _ _;refine wpAny_bind (wpAny_updateSeq hS' rfl (wpAny_pure ⟨plainId_quiet F.plain_sum_loop _,?_⟩));exact next _ _ tk _ 0 (acc+y) (.inl rfl) (up _ _) (Heap.get?_update_self _ hS' rfl)
   ·refine wpAny_bind (wpAny_rule ?_);refine wpAny_bind (wpAny_attempt (wpAny_holding (wpAny_add_int ?_)));show wpAny _ A.in1 (updateSeq S (fun _=>#[.int (acc+y) tk]) >>= _) _ _ _;refine wpAny_bind (wpAny_updateSeq hS' rfl ?_);have hS₂:=Heap.get?_update_self (Obj.mapSeq fun _=>#[Value.int (acc+y) tk]) hS' rfl;refine wpAny_bind (wpAny_letGo ?_);refine wpAny_bind (wpAny_updateSeq hS₂ rfl (wpAny_pure ⟨plainId_quiet F.plain_sum_loop _,?_⟩));exact next _ _ tk _ 2 (acc+y) (.inr rfl) (fun b hb=>(up _ _ b hb).trans (up _ _ b hb)) (Heap.get?_update_self _ hS₂ rfl)
  ·show wpAny _ A.in1 ((holding [Value.int y t] (binaryOp .Add (.int acc tA) (.int y t))).attempt >>= _) _ _ _;refine wpAny_bind (wpAny_attempt (wpAny_holding (wpAny_add_int ?_)));show wpAny _ A.in1 (updateSeq S (fun _=>#[.int (acc+y) tk]) >>= _) _ _ _;refine wpAny_bind (wpAny_updateSeq hS' rfl ?_);have hS₂:=Heap.get?_update_self (Obj.mapSeq fun _=>#[Value.int (acc+y) tk]) hS' rfl;refine wpAny_bind (wpAny_letGo ?_);refine wpAny_bind (wpAny_updateSeq hS₂ rfl (wpAny_pure ⟨plainId_quiet F.plain_sum_loop _,?_⟩));exact next _ _ tk _ 2 (acc+y) (.inr rfl) (fun b hb=>(up _ _ b hb).trans (up _ _ b hb)) (Heap.get?_update_self _ hS₂ rfl)
theorem Tg{w:World}{g:Array GenState}{dr:Drawn}{os:OsState}{h:Heap}{tk:Nat}{l:Addr}{vs:List Value}{xs:List Int}{e:Nat}(hh:A.handled=none)(hx:Ints vs xs)(H:Has h [(l,listO vs e)]) (Hn:∀h' tk' x t',Ext [] h h'->R (.ok (.ret (.int x t'))) ⟨h',g,dr,tk',os⟩): codeAny (model pw w) A (.call (.builtin "sum") ⟨[.ref l],[]⟩) R ⟨h,g,dr,tk,os⟩:=by
 refine codeAny_call_builtin F.plain_sum F.entry_sum ?_;have ho:=H.own (l,listO vs e) (.head _);have hl:h.IsList l vs.toArray:=XM (s:=⟨h,g,dr,tk,os⟩) ho;have key:wpAny (model pw w) A.in1 (Builtin.«sum» ⟨[.ref l],[]⟩) (fun fin s'=>match fin with
   | .done f=>R (.ok f) s'
   | .again c'=>c'.quiet=true/\codeAny (model pw w) A c' R s') (fun e s'=>R (.error e) s') ⟨h,g,dr,tk,os⟩:=by
  unfold Builtin.«sum»;simp only [List.length_cons,List.length_nil];rw [if_neg (by decide)];refine wpAny_bind (wpAny_of_eq (show Builtin.Builtins.bindParams "sum" ["start"] 0 {}=pure [none] from rfl) ?_);refine wpAny_bind (wpAny_pyIter_list hl ?_);refine wpAny_bind (wpAny_mkInt ?_);refine wpAny_bind (wpAny_pure ?_);simp only [List.forIn_cons,List.forIn_nil];refine wpAny_bind (wpAny_bind (wpAny_bind (wpAny_isInstance (typeIs_int _ _ _) F.sub_int_str ?_)));simp only [Bool.false_eq_true,if_false];refine wpAny_pure (wpAny_bind (wpAny_bind (wpAny_isInstance (typeIs_int _ _ _) F.sub_int_bytes ?_)));simp only [Bool.false_eq_true,if_false];refine wpAny_pure (wpAny_bind (wpAny_bind (wpAny_isInstance (typeIs_int _ _ _) F.sub_int_bytearray ?_)));simp only [Bool.false_eq_true,if_false];refine wpAny_pure (wpAny_pure ?_);refine wpAny_bind (wpAny_newObj_type ?_);have lt:=Heap.lt_size ho;have e1:(h.push {cls:=.type "list_iterator",data:=.fields #[.ref l,.int 0 0]}).objs.size=h.objs.size+1:=Heap.size_push ..;refine wpAny_pure ⟨plainId_quiet F.plain_sum_loop _,?_⟩;refine FD (s0:=⟨h,g,dr,tk,os⟩) (I:=h.objs.size) (S:=(h.push {cls:=.type "list_iterator",data:=.fields #[.ref l,.int 0 0]}).objs.size) (l:=l) (vs:=vs.toArray) (by rw [e1];exact Nat.succ_ne_self _) (by rw [e1];exact Nat.ne_of_gt (Nat.lt_succ_of_lt lt)) (Nat.ne_of_lt lt) xs vs 0 _ _ tk 0 0 0 hh (.inl rfl) hx (by simp) ?_ ?_ (Heap.get?_push_size _ rfl) ?_
  ·exact ⟨_,Heap.get?_push_of_some _ (Heap.get?_push_size _ rfl),rfl,rfl⟩
  ·exact hl.at fun o e=>Heap.get?_push_of_some _ (Heap.get?_push_of_some _ e)
  ·intro h' tk' x t' k ⟨oS,eS⟩;refine Hn h' tk' x t' ⟨?_,fun b o eb _=>?_⟩
   ·have:=Heap.lt_size eS;rw [e1] at this;exact Nat.le_of_lt (Nat.lt_of_succ_lt this)
   ·have lb:=Heap.lt_size eb;exact k b o (Nat.ne_of_lt lb) (by rw [e1];exact Nat.ne_of_lt (Nat.lt_succ_of_lt lb)) (Heap.get?_push_of_some _ (Heap.get?_push_of_some _ eb))
 simp only [checkBuiltinCall,F.kind_sum];have ha:argsOk "sum" ⟨[.ref l],[]⟩:=F.args_sum1 _;cases hsig:Manifest.signature? "sum" with
 | none=>exact wpAny_pure key
 | some sig=>
  simp only [argsOk,hsig] at ha;have h2:Bind.checkArgs "sum" sig ⟨[.ref l],[]⟩=pure ():=ha;show wpAny _ A.in1 (Bind.checkArgs "sum" sig ⟨[.ref l],[]⟩) _ _ _;rw [h2];exact wpAny_pure key
end

noncomputable abbrev Te:Value:=.type PySem.W.SL.s1438033511350832697x5
theorem V2:Te=.type "range":=congrArg Value.type PySem.W.SL.e1438033511350832697x5.symm
noncomputable abbrev Tn(z:Int)(u0 u1 u2:Nat):Obj:={cls:=Te,data:=.fields ⟨[.int 0 u0,.int z u1,.int 1 u2]⟩}
noncomputable abbrev HF(a b:Value):Obj:={cls:=G7,data:=.fields ⟨[a,b,.none]⟩}
section
variable{P:Params}{prog:Program}{w:World}{t n:Nat}
theorem FI{z:Int}(h0:0<z)(hz:z<1000):Builtin.Range.rangeSize 0 z 1=z/\Builtin.Range.small 0 z 1=true:=by
 have e:Builtin.Range.rangeSize 0 z 1=z:=by
  unfold Builtin.Range.rangeSize;rw [if_pos (by decide),if_pos h0,Int.ediv_one];lia
 refine ⟨e,?_⟩;unfold Builtin.Range.small;rw [e];have f:∀x:Int,0<=x->x<1001->Builtin.Range.rangeFitsLong x=true:=by
  intro x h1 h2;unfold Builtin.Range.rangeFitsLong;simp only [Bool.and_eq_true,decide_eq_true_eq];omega
 rw [f 0 (by decide) (by decide),f z (by omega) (by omega),f 1 (by decide) (by decide),if_pos (by decide),f (z+(1 - 1)) (by omega) (by omega)];simp
theorem JF{r:Addr}{z:Int}{u0 u1 u2:Nat}(h0:0<z)(hz:z<1000):
  Ob.Holds P (model prog w) (oB "range.__iter__" [.ref r] t n (.ref n) (rd:=[(r,Tn z u0 u1 u2)]) (al:=[rgO 0 z])):=by
 intro A R s _ _ _ ht hn hr hR;obtain ⟨hp,g,d,tk,os⟩:=s;obtain rfl:tk=t:=ht;obtain rfl:hp.objs.size=n:=hn;have ho:=hr (r,Tn z u0 u1 u2) (.head _);obtain ⟨e,sm⟩:=FI h0 hz;have hl:hp.get? r=some {cls:=.type "range",dict:=none,data:=.fields #[.int 0 u0,.int z u1,.int 1 u2],slots:=#[]}:=by
  rw [←V2];exact ho
 have hT:(⟨hp,g,d,tk,os⟩:Shared).TypeIs (.ref r) "range":=⟨_,hl,rfl⟩;have key:=AutoRange.range___iter___range_1 r 0 z 1 u0 u1 u2 (by intro hn;unfold Builtin.Range.small at sm;rw [sm] at hn;cases hn);refine codeAny_call_builtin F.slot_range_iter.plain F.entry_range_iter (F.slot_range_iter.check _ _ _ _ _ _ _ _ hT (F.args_range_iter_1 _) ?_);refine key prog w A R _ ⟨hl,?_⟩;unfold Builtin.Range.small at sm;simp only [sm,if_true];rw [e];have e0:({cls:=.type "range_iterator",data:=.fields #[rawInt 0,rawInt z,rawInt 1]}:Obj)=rgO 0 z:=by
  unfold rgO;rw [qC];rfl
 rw [e0];exact hR
theorem Tx{l sl:Addr}{vs:List Value}{e:Nat}{u:Nat}(hz:vs.length<=sizeLine):
  Ob.Holds P (model prog w) (oB "list.__getitem__" [.ref l,.ref sl] t n (.ref n) (rd:=[(l,listO vs e),(sl,HF .none (.int 5 u))]) (al:=[listO (vs.take 5) 0])):=by
 refine NG (lo:=none) (hi:=some 5) (vl:=.none) (vu:=.int 5 u) (by unfold HF;rw [qe]) .none (.int _ _) ?_ hz;have:=slicePick_upto' vs.toArray 5;rw [show (some (5:Int))=some ((5:Nat):Int) from rfl,this]
theorem Tw{l sl:Addr}{vs:List Value}{e:Nat}{u k:Nat}(hz:vs.length<=sizeLine):
  Ob.Holds P (model prog w) (oB "list.__getitem__" [.ref l,.ref sl] t n (.ref n) (rd:=[(l,listO vs e),(sl,HF (.int (k:Int) u) .none)]) (al:=[listO (vs.drop k) 0])):=by
 refine NG (lo:=some (k:Int)) (hi:=none) (vl:=.int k u) (vu:=.none) (by unfold HF;rw [qe]) (.int _ _) .none ?_ hz;rw [slicePick_from' vs.toArray k]
theorem Sz{a b:Addr}{us vs:List Value}{xs:List Int}{e e2:Nat}(hu:Ints us xs)(hv:Ints vs xs):
  Ob.Holds P (model prog w) (oB "list.__ne__" [.ref a,.ref b] t n (.bool false) (rd:=[(a,listO us e),(b,listO vs e2)])):=by
 intro A R s _ _ _ ht _ hr hR;rw [Yg ht] at hR;have ho:=hr (a,listO us e) (.head _);have ho2:=hr (b,listO vs e2) (.tail _ (.head _));have hl:=XM ho;have h1:s.heap.get? a=some {cls:=.type "list",dict:=none,data:=.seq us.toArray e,slots:=#[]}:=by rw [←Ye];exact ho
 have h2:s.heap.get? b=some {cls:=.type "list",dict:=none,data:=.seq vs.toArray e2,slots:=#[]}:=by rw [←Ye];exact ho2
 refine codeAny_call_builtin F.slot_list_ne.plain F.entry_list_ne (F.slot_list_ne.check _ _ _ _ _ _ _ _ hl.typeIs (F.args_list_ne_2 _ _) ?_);have e1:=hu.len;have e2':=hv.len;refine SeqAt.list_neAt a b us.toArray vs.toArray e e2 none none #[] #[] (by simp [e1,e2']) (fun _=>true) prog w A R s ⟨h1,h2,?_,?_⟩
 ·intro j hj1 hj2 prog' w' E Q hQ;have hj:j<xs.length:=by rw [←e1];simpa using hj1
  obtain ⟨t1,ht1⟩:=hu.at' j xs[j] (List.getElem?_eq_getElem hj);obtain ⟨t2,ht2⟩:=hv.at' j xs[j] (List.getElem?_eq_getElem hj);have g1:us.toArray[j]=.int xs[j] t1:=by
   have:=(List.getElem?_eq_some_iff.mp ht1).2
   simpa using this
  have g2:vs.toArray[j]=.int xs[j] t2:=by
   have:=(List.getElem?_eq_some_iff.mp ht2).2
   simpa using this
  rw [g1,g2];exact wpAny_eqBool_int (by rw [show (xs[j]==xs[j])=true from beq_self_eq_true _];exact hQ)
 ·have:(List.range us.toArray.size).all (fun _=>true)=true:=by simp
  rw [this];exact hR
end

section
variable(b1 b2:Bool)(P:Params)
def Ac:List Nat:=dO 27 0xc002080420004081020410000040c18302000000204000
section
variable(n0 t0 n4 n1 t1 n2 t2 n3 t3 n t:Nat)(sc:Addr)(vs:List Value)(e:Nat)(ws us zs:List Value)(ln:Int)(dl:Addr)(sm:Int)(st q1:Nat)(cs r0 r1 r2:Addr)(ce q2 q4:Nat)(v4:Value)(v0 v1 v2:List Value)(f0 f1 f2:Nat)(z0 z1 z2:Int)(u0 u1 u2:Nat)
def Cx:Out:=
 let xc:Code:=.call (.ref 264) ⟨[.ref sc],[]⟩;ev (bS b1 b2 P n t) 61 Ac [{v:=VR (n+2),rd:=[2,0],al:=[listO ws 0]},{v:=VI ln (t+6+1),di:=2,rd:=[4]},{v:=VR (n+5),rd:=[1,0],al:=[listO us 0]},{v:=VR (n+6),rd:=[3,0],al:=[listO zs 0]}] xc (XQ xc) [] 0 [(sc,listO vs e)] 0 0 [] []
theorem H8:Seg (Cx b1 b2 P n t sc vs e ws us zs ln) .stop (.call (.ref 208) ⟨[.ref (n+6)],[]⟩) 7 8 [oB "list.__add__" [VR (n+2),VR (n+5)] (t+8) (n+6) (VR (n+6)) (rd:=[(n+2,listO ws 0),(n+5,listO us 0)]) (al:=[listO zs 0]),oB "list.__getitem__" [VR (n+3),VR (n+4)] (t+8) (n+5) (VR (n+5)) (rd:=[(n+3,{cls:=Value.type SL.s9222952809800978799x4,data:=Data.seq {toList:=[VI 0 (t+2),VI 10 (t+3),VI 12 (t+4),VI 20 (t+5)]}}),(n+4,{cls:=Value.type SL.s4674234679698826739x5,data:=Data.fields {toList:=[VI ln (t+6+1),Value.none,Value.none]}})]) (al:=[listO us 0]),oB "len" [VR sc] (t+6) (n+4) (VI ln (t+6+1)) (di:=2) (rd:=[(sc,listO vs e)]),oB "list.__getitem__" [VR sc,VR (n+1)] (t+2) (n+2) (VR (n+2)) (rd:=[(sc,listO vs e),(n+1,{cls:=Value.type SL.s4674234679698826739x5,data:=Data.fields {toList:=[Value.none,VI 5 (t+1),Value.none]}})]) (al:=[listO ws 0])] [6,0,7] ([(n+0,frameO [kn26 P (t+0) (.ref sc)] 1),(n+6,listO zs 0),(sc,listO vs e)]):=sO
def Ab:List Nat:=dO 8 0x6040000200081
def Cw:Out:=let xr:=(Cx b1 b2 P n0 t0 sc vs e ws us zs ln).res;ev (bS b1 b2 P n t) 25 Ab [] xr.c (xr.k (.ok (.ret (.ref dl)))) xr.K xr.d [(n0+0,frameO [kn26 P (t0+0) (.ref sc)] 1),(sc,listO vs e)] 0 0 [] []
abbrev H7:Prop:=SegE (Cw b1 b2 P n0 t0 n t sc vs e ws us zs ln dl) .stop (.call (.builtin "sum") ⟨[.ref sc],[]⟩) 0 1 [] [0,1] ([(n0+0,frameO [kn26 P (t0+0) (.ref sc),kn1 P (t+0) (.ref dl)] 2),(sc,listO vs e)])
def Aa:List Nat:=[0,3]
def Cv:Out:=let xr:=(Cw b1 b2 P n0 t0 n1 t1 sc vs e ws us zs ln dl).res;ev (bS b1 b2 P n t) 9 Aa [] xr.c (xr.k (.ok (.ret (.int sm st)))) xr.K xr.d [(n0+0,frameO [kn26 P (t0+0) (.ref sc),kn1 P q1 (.ref dl)] 2)] 0 0 [] []
abbrev lawC_ok:Prop:=SegE (Cv b1 b2 P n0 t0 n1 t1 n t sc vs e ws us zs ln dl sm st q1) .stop (.call (.ref 232) ⟨[.ref dl,.int sm st],[]⟩) 0 0 [] [0] ([(n0+0,frameO [kn26 P (t0+0) (.ref sc),kn1 P q1 (.ref dl)] 2)])
def E9:List Nat:=dO 10 0x18100080020404081
abbrev qK cs r0 r1 r2 ce:=((cs,listO [.ref r0,.ref r1,.ref r2] ce):Xp)
def Ed:Out:=let xr:=(Cv b1 b2 P n0 t0 n1 t1 n2 t2 sc vs e ws us zs ln dl sm st q1).res;ev (bS b1 b2 P n t) 30 E9 [] xr.c (xr.k (.ok (.ret (.ref cs)))) xr.K xr.d [(n0+0,frameO [kn26 P (t0+0) (.ref sc),kn1 P q1 (.ref dl)] 2),(qK cs r0 r1 r2 ce)] 0 0 [] []
theorem NX:qW (Ed b1 b2 P n0 t0 n1 t1 n2 t2 n t sc vs e ws us zs ln dl sm st q1 cs r0 r1 r2 ce) 3 1 [] [0,1,2,3,4] ([(n+2,dctO [] 0),(n+1,listO [] 0),(n+0,itO cs 0),(n0+0,frameO [kn26 P (t0+0) (.ref sc),kn1 P q1 (.ref dl),kn27 P (t+0) (.ref cs)] 3),(qK cs r0 r1 r2 ce)]):=lO
def E8:Bool->List Nat
 | true=>dO 77 0x1060c20306001800600102040010004040000204183080c1800600180040810004001010000081060c20306001800600102040010004040000204183080c1800600180
 | false=>dO 83 0x4183080c1800600180040810004001010000081060c20306001800600102040010004040000204183080c1800600180040810004001010000081060c203060018006001800600183
def lawE:Out:=let xc:=(Ed b1 b2 P n0 t0 n1 t1 n2 t2 n3 t3 sc vs e ws us zs ln dl sm st q1 cs r0 r1 r2 ce).res.callee;ev (bS b1 b2 P n t) 136 (E8 b2) [{v:=VI z0 (t+1+1),di:=2,rd:=[4]},{v:=VI z1 (t+4+1),di:=2,rd:=[5]},{v:=VI z2 (t+7+1),di:=2,rd:=[6]}] xc (denF xc) [] 0 [(n3+2,dctO [] 0),(n3+1,listO [] 0),(n3+0,itO cs 0),(qK cs r0 r1 r2 ce),(r0,listO v0 f0),(r1,listO v1 f1),(r2,listO v2 f2)] 0 0 [] []
abbrev lawE_ok:Prop:=XD (lawE b1 b2 P n0 t0 n1 t1 n2 t2 n3 t3 n t sc vs e ws us zs ln dl sm st q1 cs r0 r1 r2 ce v0 v1 v2 f0 f1 f2 z0 z1 z2) 2 9 [oB "len" [VR r2] (t+7) (n+0) (VI z2 (t+7+1)) (di:=2) (rd:=[(r2,listO v2 f2)]),oB "len" [VR r1] (t+4) (n+0) (VI z1 (t+4+1)) (di:=2) (rd:=[(r1,listO v1 f1)]),oB "len" [VR r0] (t+1) (n+0) (VI z0 (t+1+1)) (di:=2) (rd:=[(r0,listO v0 f0)])] [2,3,5,6,7,8] ([(n3+2,dctO [kn21 P (t+0) (.ref r2)] 1),(n3+1,listO [.int z0 (t+1+1),.int z1 (t+4+1),.int z2 (t+7+1)] 3),(qK cs r0 r1 r2 ce),(r0,listO v0 f0),(r1,listO v1 f1),(r2,listO v2 f2)])
def E7:List Nat:=dO 31 0xc0820204080020008100000000408002000810206000010204183
abbrev Jq n3 z0 u0 z1 u1 z2 u2:=((n3+1,listO [.int z0 u0,.int z1 u1,.int z2 u2] 3):Xp)
def Ec:Out:=let xr:=(Ed b1 b2 P n0 t0 n1 t1 n2 t2 n3 t3 sc vs e ws us zs ln dl sm st q1 cs r0 r1 r2 ce).res;ev (bS b1 b2 P n t) 63 E7 [{v:=VI (z0+1) (t+3),di:=1},{v:=VR (n+1),rd:=[0],al:=[rgO 0 (z0+1)]}] xr.c (xr.k (.ok .next)) xr.K xr.d [(n3+2,dctO [kn21 P q4 v4] 1),(Jq n3 z0 u0 z1 u1 z2 u2),(n0+0,frameO [kn26 P (t0+0) (.ref sc),kn1 P q1 (.ref dl),kn27 P q2 (.ref cs)] 3)] 0 0 [] []
noncomputable def YR:Code:=(Ec b1 b2 P n0 t0 0 0 0 0 0 0 n4 0 0 [] 0 [] [] [] 0 0 0 0 0 0 0 0 0 0 0 0 .none 0 0 0 0 0 0).res.callee
theorem NW:SegL (Ec b1 b2 P n0 t0 n1 t1 n2 t2 n3 t3 n t sc vs e ws us zs ln dl sm st q1 cs r0 r1 r2 ce q2 q4 v4 z0 z1 z2 u0 u1 u2) (YR b1 b2 P n0 t0 n) 2 6 [oB "range.__iter__" [VR (n+0)] (t+6) (n+1) (VR (n+1)) (rd:=[(n+0,{cls:=Value.type SL.s1438033511350832697x5,data:=Data.fields {toList:=[VI 0 (t+4),VI (z0+1) (t+3),VI 1 (t+5)]}})]) (al:=[rgO 0 (z0+1)]),oB "int.__add__" [VI z0 u0,VI 1 (t+2)] (t+3) (n+0) (VI (z0+1) (t+3)) (di:=1)] [0,4,3] ([(n+1,rgO 0 (z0+1)),(n0+0,frameO [kn26 P (t0+0) (.ref sc),kn1 P q1 (.ref dl),kn27 P q2 (.ref cs),kn28 P (t+0) (.ref (n3+1))] 4),(Jq n3 z0 u0 z1 u1 z2 u2)]):=lO
end
end

section
variable(b1 b2:Bool)(P:Params)
section
variable(n0 t0 n4 n5 n t n3:Nat)(sc dl cs:Addr)(q1 q2 q3:Nat)(z0 z1 z2:Int)(u0 u1 u2:Nat)(kx rx rx2:Int)(qx qy qz qc:Nat)(xv yv zv cv:Value)
theorem Ju:(weightF (YR b1 b2 P n0 t0 n4),quietF (YR b1 b2 P n0 t0 n4))=(0,true):=(NW b1 b2 P n0 t0 0 0 0 0 0 0 n4 0 0 [] 0 [] [] [] 0 0 0 0 0 0 0 0 0 0 0 0 .none 0 0 0 0 0 0).wq
def Rz:List Nat:=dO 30 0x18104040810004001020000000081000400102040c000060c101
def lawXA:Out:=
 ev (bS b1 b2 P n t) 60 Rz [{v:=VI kx (t+0),di:=1,w:=some (0,rgO (kx+1) rx2)},{v:=VI (z1+1) (t+4),di:=1},{v:=VR (n+1),rd:=[0],al:=[rgO 0 (z1+1)]}] ((YR b1 b2 P n0 t0 n4)) (denF (YR b1 b2 P n0 t0 n4)) ([]) (0) ([(n4+1,rgO kx rx),
   (Jq n3 z0 u0 z1 u1 z2 u2),
   (n0+0,frameO [kn26 P (t0+0) (.ref sc),kn1 P q1 (.ref dl),kn27 P q2 (.ref cs),kn28 P q3 (.ref (n3+1))] 4)]) 0 0 [] []
abbrev lawXA_s:Prop:=VX (lawXA b1 b2 P n0 t0 n4 n t n3 sc dl cs q1 q2 q3 z0 z1 z2 u0 u1 u2 kx rx rx2) 2 7 [oB "range.__iter__" [VR (n+0)] (t+7) (n+1) (VR (n+1)) (rd:=[(n+0,{cls:=Value.type SL.s1438033511350832697x5,data:=Data.fields {toList:=[VI 0 (t+5),VI (z1+1) (t+4),VI 1 (t+6)]}})]) (al:=[rgO 0 (z1+1)]),oB "int.__add__" [VI z1 u1,VI 1 (t+3)] (t+4) (n+0) (VI (z1+1) (t+4)) (di:=1),oB "range_iterator.__next__" [VR (n4+1)] (t+0) (n+0) (VI kx (t+0)) (di:=1) (w:=some (n4+1,rgO kx rx,rgO (kx+1) rx2))] [0,2,3,4] ([(n+1,rgO 0 (z1+1)),(n4+1,rgO (kx+1) rx2),(Jq n3 z0 u0 z1 u1 z2 u2),(n0+0,frameO [kn26 P (t0+0) (.ref sc),kn1 P q1 (.ref dl),kn27 P q2 (.ref cs),kn28 P q3 (.ref (n3+1)),kn11 P (t+1) (.int kx (t+0))] 5)])
def Ry:List Nat:=dO 30 0x18104040810004001020000000081000400102040c000060c101
def lawXB:Out:=
 ev (bS b1 b2 P n t) 60 Ry [{v:=VI kx (t+0),di:=1,w:=some (0,rgO (kx+1) rx2)},{v:=VI (z1+1) (t+4),di:=1},{v:=VR (n+1),rd:=[0],al:=[rgO 0 (z1+1)]}] ((YR b1 b2 P n0 t0 n4)) (denF (YR b1 b2 P n0 t0 n4)) ([]) (0) ([(n4+1,rgO kx rx),
   (Jq n3 z0 u0 z1 u1 z2 u2),
   (n0+0,frameO [kn26 P (t0+0) (.ref sc),kn1 P q1 (.ref dl),kn27 P q2 (.ref cs),kn28 P q3 (.ref (n3+1)),kn11 P qx xv,kn29 P qy yv,kn30 P qz zv,kn2 P qc cv] 8)]) 0 0 [] []
noncomputable def lawRX:Res:=(lawXA b1 b2 P n0 t0 n4 n5 0 0 0 0 0 0 0 0 0 0 0 0 0 0 0 0 0).res
abbrev lawXB_s:Prop:=VX (lawXB b1 b2 P n0 t0 n4 n t n3 sc dl cs q1 q2 q3 z0 z1 z2 u0 u1 u2 kx rx rx2 qx qy qz qc xv yv zv cv) 2 7 [oB "range.__iter__" [VR (n+0)] (t+7) (n+1) (VR (n+1)) (rd:=[(n+0,{cls:=Value.type SL.s1438033511350832697x5,data:=Data.fields {toList:=[VI 0 (t+5),VI (z1+1) (t+4),VI 1 (t+6)]}})]) (al:=[rgO 0 (z1+1)]),oB "int.__add__" [VI z1 u1,VI 1 (t+3)] (t+4) (n+0) (VI (z1+1) (t+4)) (di:=1),oB "range_iterator.__next__" [VR (n4+1)] (t+0) (n+0) (VI kx (t+0)) (di:=1) (w:=some (n4+1,rgO kx rx,rgO (kx+1) rx2))] [0,2,3,4] ([(n+1,rgO 0 (z1+1)),(n4+1,rgO (kx+1) rx2),(Jq n3 z0 u0 z1 u1 z2 u2),(n0+0,frameO [kn26 P (t0+0) (.ref sc),kn1 P q1 (.ref dl),kn27 P q2 (.ref cs),kn28 P q3 (.ref (n3+1)),kn11 P qx (.int kx (t+0)),kn29 P qy yv,kn30 P qz zv,kn2 P qc cv] 8)])
end
end

section
variable(b1 b2:Bool)(P:Params)
def Rv:List Nat:=dO 30 0x18104040810004001020000000081000400102040c000060c101
section
variable(n0 t0 n4 n5 n6 n t n3:Nat)(sc dl cs:Addr)(q1 q2 q3:Nat)(z0 z1 z2:Int)(u0 u1 u2 qx qy qz qc:Nat)(xv yv zv cv:Value)(ky ry ry2:Int)
def lawYA:Out:=let xc:=(lawRX b1 b2 P n0 t0 n4 n5).callee;ev (bS b1 b2 P n t) 60 Rv [{v:=VI ky (t+0),di:=1,w:=some (0,rgO (ky+1) ry2)},{v:=VI (z2+1) (t+4),di:=1},{v:=VR (n+1),rd:=[0],al:=[rgO 0 (z2+1)]}] xc (denF xc) [] 0 [(n5+1,rgO ky ry),(Jq n3 z0 u0 z1 u1 z2 u2),(n0+0,frameO [kn26 P (t0+0) (.ref sc),kn1 P q1 (.ref dl),kn27 P q2 (.ref cs),kn28 P q3 (.ref (n3+1)),kn11 P qx xv] 5)] 0 0 [] []
abbrev lawYA_s:Prop:=VX (lawYA b1 b2 P n0 t0 n4 n5 n t n3 sc dl cs q1 q2 q3 z0 z1 z2 u0 u1 u2 qx xv ky ry ry2) 2 7 [oB "range.__iter__" [VR (n+0)] (t+7) (n+1) (VR (n+1)) (rd:=[(n+0,{cls:=Value.type SL.s1438033511350832697x5,data:=Data.fields {toList:=[VI 0 (t+5),VI (z2+1) (t+4),VI 1 (t+6)]}})]) (al:=[rgO 0 (z2+1)]),oB "int.__add__" [VI z2 u2,VI 1 (t+3)] (t+4) (n+0) (VI (z2+1) (t+4)) (di:=1),oB "range_iterator.__next__" [VR (n5+1)] (t+0) (n+0) (VI ky (t+0)) (di:=1) (w:=some (n5+1,rgO ky ry,rgO (ky+1) ry2))] [0,2,3,4] ([(n+1,rgO 0 (z2+1)),(n5+1,rgO (ky+1) ry2),(Jq n3 z0 u0 z1 u1 z2 u2),(n0+0,frameO [kn26 P (t0+0) (.ref sc),kn1 P q1 (.ref dl),kn27 P q2 (.ref cs),kn28 P q3 (.ref (n3+1)),kn11 P qx xv,kn29 P (t+1) (.int ky (t+0))] 6)])
def Ru:List Nat:=dO 30 0x18104040810004001020000000081000400102040c000060c101
def lawYB:Out:=let xc:=(lawRX b1 b2 P n0 t0 n4 n5).callee;ev (bS b1 b2 P n t) 60 Ru [{v:=VI ky (t+0),di:=1,w:=some (0,rgO (ky+1) ry2)},{v:=VI (z2+1) (t+4),di:=1},{v:=VR (n+1),rd:=[0],al:=[rgO 0 (z2+1)]}] xc (denF xc) [] 0 [(n5+1,rgO ky ry),(Jq n3 z0 u0 z1 u1 z2 u2),(n0+0,frameO [kn26 P (t0+0) (.ref sc),kn1 P q1 (.ref dl),kn27 P q2 (.ref cs),kn28 P q3 (.ref (n3+1)),kn11 P qx xv,kn29 P qy yv,kn30 P qz zv,kn2 P qc cv] 8)] 0 0 [] []
noncomputable def lawRY:Res:=(lawYA b1 b2 P n0 t0 n4 n5 n6 0 0 0 0 0 0 0 0 0 0 0 0 0 0 0 .none 0 0 0).res
abbrev lawYB_s:Prop:=VX (lawYB b1 b2 P n0 t0 n4 n5 n t n3 sc dl cs q1 q2 q3 z0 z1 z2 u0 u1 u2 qx qy qz qc xv yv zv cv ky ry ry2) 2 7 [oB "range.__iter__" [VR (n+0)] (t+7) (n+1) (VR (n+1)) (rd:=[(n+0,{cls:=Value.type SL.s1438033511350832697x5,data:=Data.fields {toList:=[VI 0 (t+5),VI (z2+1) (t+4),VI 1 (t+6)]}})]) (al:=[rgO 0 (z2+1)]),oB "int.__add__" [VI z2 u2,VI 1 (t+3)] (t+4) (n+0) (VI (z2+1) (t+4)) (di:=1),oB "range_iterator.__next__" [VR (n5+1)] (t+0) (n+0) (VI ky (t+0)) (di:=1) (w:=some (n5+1,rgO ky ry,rgO (ky+1) ry2))] [0,2,3,4] ([(n+1,rgO 0 (z2+1)),(n5+1,rgO (ky+1) ry2),(Jq n3 z0 u0 z1 u1 z2 u2),(n0+0,frameO [kn26 P (t0+0) (.ref sc),kn1 P q1 (.ref dl),kn27 P q2 (.ref cs),kn28 P q3 (.ref (n3+1)),kn11 P qx xv,kn29 P qy (.int ky (t+0)),kn30 P qz zv,kn2 P qc cv] 8)])
end
end

section
variable(b1 b2:Bool)(P:Params)
def Rk:List Nat:=dO 14 0x180060c00306081020408101
def lawZA(n0 t0 n4 n5 n6 n t:Nat)(n3:Nat)(sc dl cs:Addr)(q1 q2 q3:Nat)(z0 z1 z2:Int)(u0 u1 u2:Nat)(qx qy:Nat)(kx ky:Int)(tx ty:Nat)(kz rz rz2:Int):Out:=let xc:=(lawRY b1 b2 P n0 t0 n4 n5 n6).callee;ev (bS b1 b2 P n t) 41 Rk [{v:=VI kz (t+0),di:=1,w:=some (0,rgO (kz+1) rz2)}] xc (denF xc) [] 0 [(n6+1,rgO kz rz),(n0+0,frameO [kn26 P (t0+0) (.ref sc),kn1 P q1 (.ref dl),kn27 P q2 (.ref cs),kn28 P q3 (.ref (n3+1)),kn11 P qx (.int kx tx),kn29 P qy (.int ky ty)] 6)] 0 0 [] []
abbrev lawZA_s(n0 t0 n4 n5 n6 n t:Nat)(n3:Nat)(sc dl cs:Addr)(q1 q2 q3:Nat)(z0 z1 z2:Int)(u0 u1 u2:Nat)(qx qy:Nat)(kx ky:Int)(tx ty:Nat)(kz rz rz2:Int):Prop:=DF (lawZA b1 b2 P n0 t0 n4 n5 n6 n t n3 sc dl cs q1 q2 q3 z0 z1 z2 u0 u1 u2 qx qy kx ky tx ty kz rz rz2) 1 3 [oB "range_iterator.__next__" [VR (n6+1)] (t+0) (n+0) (VI kz (t+0)) (di:=1) (w:=some (n6+1,rgO kz rz,rgO (kz+1) rz2))] [0,1,2] ([(n+0,listO [.int kx tx,.int ky ty,.int kz (t+0)] 0),(n6+1,rgO (kz+1) rz2),(n0+0,frameO [kn26 P (t0+0) (.ref sc),kn1 P q1 (.ref dl),kn27 P q2 (.ref cs),kn28 P q3 (.ref (n3+1)),kn11 P qx (.int kx tx),kn29 P qy (.int ky ty),kn30 P (t+1) (.int kz (t+0)),kn2 P (t+2) (.ref (n+0))] 8)])
def Rj:List Nat:=dO 14 0x180060c00306081020408101
def lawZB(n0 t0 n4 n5 n6 n t:Nat)(n3:Nat)(sc dl cs:Addr)(q1 q2 q3:Nat)(z0 z1 z2:Int)(u0 u1 u2:Nat)(qx qy:Nat)(kx ky:Int)(tx ty:Nat)(qz qc:Nat)(zv cv:Value)(kz rz rz2:Int):Out:=let xc:=(lawRY b1 b2 P n0 t0 n4 n5 n6).callee;ev (bS b1 b2 P n t) 41 Rj [{v:=VI kz (t+0),di:=1,w:=some (0,rgO (kz+1) rz2)}] xc (denF xc) [] 0 [(n6+1,rgO kz rz),(n0+0,frameO [kn26 P (t0+0) (.ref sc),kn1 P q1 (.ref dl),kn27 P q2 (.ref cs),kn28 P q3 (.ref (n3+1)),kn11 P qx (.int kx tx),kn29 P qy (.int ky ty),kn30 P qz zv,kn2 P qc cv] 8)] 0 0 [] []
noncomputable def lawRZ(n0 t0 n4 n5 n6 cs n7:Nat):Res:=(lawZA b1 b2 P n0 t0 n4 n5 n6 n7 0 0 0 0 cs 0 0 0 0 0 0 0 0 0 0 0 0 0 0 0 0 0 0).res
abbrev lawZB_s(n0 t0 n4 n5 n6 n t:Nat)(n3:Nat)(sc dl cs:Addr)(q1 q2 q3:Nat)(z0 z1 z2:Int)(u0 u1 u2:Nat)(qx qy:Nat)(kx ky:Int)(tx ty:Nat)(qz qc:Nat)(zv cv:Value)(kz rz rz2:Int):Prop:=DF (lawZB b1 b2 P n0 t0 n4 n5 n6 n t n3 sc dl cs q1 q2 q3 z0 z1 z2 u0 u1 u2 qx qy kx ky tx ty qz qc zv cv kz rz rz2) 1 3 [oB "range_iterator.__next__" [VR (n6+1)] (t+0) (n+0) (VI kz (t+0)) (di:=1) (w:=some (n6+1,rgO kz rz,rgO (kz+1) rz2))] [0,1,2] ([(n+0,listO [.int kx tx,.int ky ty,.int kz (t+0)] 0),(n6+1,rgO (kz+1) rz2),(n0+0,frameO [kn26 P (t0+0) (.ref sc),kn1 P q1 (.ref dl),kn27 P q2 (.ref cs),kn28 P q3 (.ref (n3+1)),kn11 P qx (.int kx tx),kn29 P qy (.int ky ty),kn30 P qz (.int kz (t+0)),kn2 P qc (.ref (n+0))] 8)])
end

section
variable(b1 b2:Bool)(P:Params)
def Rq:List Nat:=[0,1,1,0,3]
abbrev BG n0(P:Params) t0 sc q1 dl q2 cs q3 n3 qx kx tx qy ky ty qz kz tz qc n7:=((n0+0,frameO [kn26 P (t0+0) (.ref sc),kn1 P q1 (.ref dl),kn27 P q2 (.ref cs),kn28 P q3 (.ref (n3+1)),kn11 P qx (.int kx tx),kn29 P qy (.int ky ty),kn30 P qz (.int kz tz),kn2 P qc (.ref (n7+0))] 8):Xp)
def SG(n0 t0 n4 n5 n6 n7 n t:Nat)(n3:Nat)(sc dl cs:Addr)(q1 q2 q3:Nat)(z0 z1 z2:Int)(u0 u1 u2:Nat)(qx qy qz qc:Nat)(kx ky kz:Int)(tx ty tz:Nat)(a:Addr):Out:=let xr:=(lawRZ b1 b2 P n0 t0 n4 n5 n6 cs n7);ev (bS b1 b2 P n t) 15 Rq [] xr.c (xr.k (.ok (.ret (.ref a)))) xr.K xr.d [(BG n0 P t0 sc q1 dl q2 cs q3 n3 qx kx tx qy ky ty qz kz tz qc n7)] 0 0 [] []
section
variable(n0 t0 n4 n5 n6 n7 n8 t8 n t n3:Nat)(sc dl cs:Addr)(q1 q2 q3:Nat)(z0 z1 z2:Int)(u0 u1 u2 qx qy qz qc:Nat)(kx ky kz:Int)(tx ty tz:Nat)(a b:Addr)(s0 s1 s2:Int)(w0 w1 w2 ea x0 x1 x2 eb:Nat)
abbrev lawZ2_s:Prop:=SegE (SG b1 b2 P n0 t0 n4 n5 n6 n7 n t n3 sc dl cs q1 q2 q3 z0 z1 z2 u0 u1 u2 qx qy qz qc kx ky kz tx ty tz a) .stop (.call (.ref 254) ⟨[.ref dl,.ref (n7+0)],[]⟩) 0 0 [] [0] ([(BG n0 P t0 sc q1 dl q2 cs q3 n3 qx kx tx qy ky ty qz kz tz qc n7)])
def Rp:List Nat:=[]
def TK:Out:=let xr:=(SG b1 b2 P n0 t0 n4 n5 n6 n7 n8 t8 n3 sc dl cs q1 q2 q3 z0 z1 z2 u0 u1 u2 qx qy qz qc kx ky kz tx ty tz a).res;ev (bS b1 b2 P n t) 8 Rp [] xr.c (xr.k (.ok (.ret (.ref b)))) xr.K xr.d [(a,listO [.int s0 w0,.int s1 w1,.int s2 w2] ea),(b,listO [.int s0 x0,.int s1 x1,.int s2 x2] eb)] 0 0 [] []
abbrev lawZ3_s:Prop:=SegE (TK b1 b2 P n0 t0 n4 n5 n6 n7 n8 t8 n t n3 sc dl cs q1 q2 q3 z0 z1 z2 u0 u1 u2 qx qy qz qc kx ky kz tx ty tz a b s0 s1 s2 w0 w1 w2 ea x0 x1 x2 eb) (.hold) (.call .none {}) 0 0 [] [0,1] ([(a,listO [.int s0 w0,.int s1 w1,.int s2 w2] ea),(b,listO [.int s0 x0,.int s1 x1,.int s2 x2] eb)])
theorem Bk:DG (TK b1 b2 P n0 t0 n4 n5 n6 n7 n8 t8 n t n3 sc dl cs q1 q2 q3 z0 z1 z2 u0 u1 u2 qx qy qz qc kx ky kz tx ty tz a b s0 s1 s2 w0 w1 w2 ea x0 x1 x2 eb).res.hk:=by
 cases b1<;>(
  iterate 9
   apply Fj
   (case e=>intro ss;with_unfolding_all rfl)
  apply Fk;intro ss
  with_unfolding_all rfl)
end
end

section
variable(b1 b2:Bool)(P:Params)
def Ro:List Nat:=dO 9 0x3000c1800404101
section
variable(n0 t0 n4 n5 n6 n7 n8 t8 n9 t9 n10 t10 n11 t11 n t n3:Nat)(sc dl cs:Addr)(q1 q2 q3:Nat)(z0 z1 z2:Int)(u0 u1 u2 qx qy qz qc:Nat)(kx ky kz:Int)(tx ty tz:Nat)(a b:Addr)(s0 s1 s2:Int)(w0 w1 w2 ea x0 x1 x2 eb:Nat)(a2 bb:Addr)(s0p s1p s2p:Int)(w0p w1p w2p eap x0p x1p x2p ebp:Nat)
def SF:Out:=let xr:=(TK b1 b2 P n0 t0 n4 n5 n6 n7 n8 t8 n9 t9 n3 sc dl cs q1 q2 q3 z0 z1 z2 u0 u1 u2 qx qy qz qc kx ky kz tx ty tz a b s0 s1 s2 w0 w1 w2 ea x0 x1 x2 eb).res;ev (bS b1 b2 P n t) 21 Ro [{v:=Value.bool false,rd:=[0,1]}] xr.c (xr.hk []) xr.K xr.d [(a,listO [.int s0 w0,.int s1 w1,.int s2 w2] ea),(b,listO [.int s0 x0,.int s1 x1,.int s2 x2] eb),(BG n0 P t0 sc q1 dl q2 cs q3 n3 qx kx tx qy ky ty qz kz tz qc n7)] 0 0 [] []
abbrev lawZ4_ok:Prop:=SegE (SF b1 b2 P n0 t0 n4 n5 n6 n7 n8 t8 n9 t9 n t n3 sc dl cs q1 q2 q3 z0 z1 z2 u0 u1 u2 qx qy qz qc kx ky kz tx ty tz a b s0 s1 s2 w0 w1 w2 ea x0 x1 x2 eb) .stop (.call (.ref 247) ⟨[.ref cs,.ref (n7+0)],[]⟩) 0 0 [oB "list.__ne__" [VR a,VR b] (t+0) (n+0) (Value.bool false) (rd:=[(a,listO [VI s0 w0,VI s1 w1,VI s2 w2] ea),(b,listO [VI s0 x0,VI s1 x1,VI s2 x2] eb)])] [0,1,2] ([(a,listO [.int s0 w0,.int s1 w1,.int s2 w2] ea),(b,listO [.int s0 x0,.int s1 x1,.int s2 x2] eb),(BG n0 P t0 sc q1 dl q2 cs q3 n3 qx kx tx qy ky ty qz kz tz qc n7)])
def Rn:List Nat:=[0,1,1,0,3]
def SE:Out:=let xr:=(SF b1 b2 P n0 t0 n4 n5 n6 n7 n8 t8 n9 t9 n10 t10 n3 sc dl cs q1 q2 q3 z0 z1 z2 u0 u1 u2 qx qy qz qc kx ky kz tx ty tz a b s0 s1 s2 w0 w1 w2 ea x0 x1 x2 eb).res;ev (bS b1 b2 P n t) 15 Rn [] xr.c (xr.k (.ok (.ret (.ref a2)))) xr.K xr.d [(BG n0 P t0 sc q1 dl q2 cs q3 n3 qx kx tx qy ky ty qz kz tz qc n7)] 0 0 [] []
abbrev lawZ5_ok:Prop:=SegE (SE b1 b2 P n0 t0 n4 n5 n6 n7 n8 t8 n9 t9 n10 t10 n t n3 sc dl cs q1 q2 q3 z0 z1 z2 u0 u1 u2 qx qy qz qc kx ky kz tx ty tz a b s0 s1 s2 w0 w1 w2 ea x0 x1 x2 eb a2) .stop (.call (.ref 259) ⟨[.ref dl,.ref (n7+0)],[]⟩) 0 0 [] [0] ([(BG n0 P t0 sc q1 dl q2 cs q3 n3 qx kx tx qy ky ty qz kz tz qc n7)])
def Rm:List Nat:=[]
def TI:Out:=let xr:=(SE b1 b2 P n0 t0 n4 n5 n6 n7 n8 t8 n9 t9 n10 t10 n11 t11 n3 sc dl cs q1 q2 q3 z0 z1 z2 u0 u1 u2 qx qy qz qc kx ky kz tx ty tz a b s0 s1 s2 w0 w1 w2 ea x0 x1 x2 eb a2).res;ev (bS b1 b2 P n t) 8 Rm [] xr.c (xr.k (.ok (.ret (.ref bb)))) xr.K xr.d [(a2,listO [.int s0p w0p,.int s1p w1p,.int s2p w2p] eap),(bb,listO [.int s0p x0p,.int s1p x1p,.int s2p x2p] ebp)] 0 0 [] []
abbrev lawZ6_s:Prop:=SegE (TI b1 b2 P n0 t0 n4 n5 n6 n7 n8 t8 n9 t9 n10 t10 n11 t11 n t n3 sc dl cs q1 q2 q3 z0 z1 z2 u0 u1 u2 qx qy qz qc kx ky kz tx ty tz a b s0 s1 s2 w0 w1 w2 ea x0 x1 x2 eb a2 bb s0p s1p s2p w0p w1p w2p eap x0p x1p x2p ebp) (.hold) (.call .none {}) 0 0 [] [0,1] ([(a2,listO [.int s0p w0p,.int s1p w1p,.int s2p w2p] eap),(bb,listO [.int s0p x0p,.int s1p x1p,.int s2p x2p] ebp)])
theorem Bj:DG (TI b1 b2 P n0 t0 n4 n5 n6 n7 n8 t8 n9 t9 n10 t10 n11 t11 n t n3 sc dl cs q1 q2 q3 z0 z1 z2 u0 u1 u2 qx qy qz qc kx ky kz tx ty tz a b s0 s1 s2 w0 w1 w2 ea x0 x1 x2 eb a2 bb s0p s1p s2p w0p w1p w2p eap x0p x1p x2p ebp).res.hk:=by
 cases b1<;>(
  iterate 9
   apply Fj
   (case e=>intro ss;with_unfolding_all rfl)
  apply Fk;intro ss
  with_unfolding_all rfl)
end
end

section
variable(b1 b2:Bool)(P:Params)
def Rl:List Nat:=[1,2,1,2,2]
section
variable(n0 t0 n4 n5 n6 n7 n8 t8 n9 t9 n10 t10 n11 t11 n12 t12 n t n3:Nat)(sc dl cs:Addr)(q1 q2 q3:Nat)(z0 z1 z2:Int)(u0 u1 u2 qx qy qz qc:Nat)(kx ky kz:Int)(tx ty tz:Nat)(a b:Addr)(s0 s1 s2:Int)(w0 w1 w2 ea x0 x1 x2 eb:Nat)(a2 bb:Addr)(s0p s1p s2p:Int)(w0p w1p w2p eap x0p x1p x2p ebp:Nat)
def Cq:Out:=let xr:=(TI b1 b2 P n0 t0 n4 n5 n6 n7 n8 t8 n9 t9 n10 t10 n11 t11 n12 t12 n3 sc dl cs q1 q2 q3 z0 z1 z2 u0 u1 u2 qx qy qz qc kx ky kz tx ty tz a b s0 s1 s2 w0 w1 w2 ea x0 x1 x2 eb a2 bb s0p s1p s2p w0p w1p w2p eap x0p x1p x2p ebp).res;ev (bS b1 b2 P n t) 12 Rl [{v:=Value.bool false,rd:=[0,1]}] xr.c (xr.hk []) xr.K xr.d [(a2,listO [.int s0p w0p,.int s1p w1p,.int s2p w2p] eap),(bb,listO [.int s0p x0p,.int s1p x1p,.int s2p x2p] ebp)] 0 0 [] []
abbrev lawZ7_ok:Prop:=SegE (Cq b1 b2 P n0 t0 n4 n5 n6 n7 n8 t8 n9 t9 n10 t10 n11 t11 n12 t12 n t n3 sc dl cs q1 q2 q3 z0 z1 z2 u0 u1 u2 qx qy qz qc kx ky kz tx ty tz a b s0 s1 s2 w0 w1 w2 ea x0 x1 x2 eb a2 bb s0p s1p s2p w0p w1p w2p eap x0p x1p x2p ebp) (.again) ((lawRY b1 b2 P n0 t0 n4 n5 n6).callee) 0 0 [oB "list.__ne__" [VR a2,VR bb] (t+0) (n+0) (Value.bool false) (rd:=[(a2,listO [VI s0p w0p,VI s1p w1p,VI s2p w2p] eap),(bb,listO [VI s0p x0p,VI s1p x1p,VI s2p x2p] ebp)])] []
  ([])
def Ri:List Nat:=dO 9 0x2040810004001
def Cp:Out:=let xc:=(lawRY b1 b2 P n0 t0 n4 n5 n6).callee;ev (bS b1 b2 P n t) 21 Ri [] xc (denF xc) [] 0 [(n6+1,rgO kz 0)] 0 0 [] []
abbrev lawZe_ok:Prop:=XD (Cp b1 b2 P n0 t0 n4 n5 n6 n t kz) 2 0 [] []
  ([])
def Rt:List Nat:=[2]
def Cs:Out:=let xr:=(lawRY b1 b2 P n0 t0 n4 n5 n6);ev (bS b1 b2 P n t) 6 Rt [] xr.c (xr.k (.ok .next)) xr.K xr.d [] 0 0 [] []
abbrev lawYE_ok:Prop:=SegE (Cs b1 b2 P n0 t0 n4 n5 n6 n t) (.again) ((lawRX b1 b2 P n0 t0 n4 n5).callee) 0 0 [] []
  ([])
def Rr:List Nat:=dO 9 0x2040810004001
def Cr:Out:=let xc:=(lawRX b1 b2 P n0 t0 n4 n5).callee;ev (bS b1 b2 P n t) 21 Rr [] xc (denF xc) [] 0 [(n5+1,rgO ky 0)] 0 0 [] []
abbrev lawYe_ok:Prop:=XD (Cr b1 b2 P n0 t0 n4 n5 n t ky) 2 0 [] []
  ([])
def Rx:List Nat:=[2]
def Cu:Out:=let xr:=(lawRX b1 b2 P n0 t0 n4 n5);ev (bS b1 b2 P n t) 6 Rx [] xr.c (xr.k (.ok .next)) xr.K xr.d [] 0 0 [] []
abbrev lawXE_ok:Prop:=SegE (Cu b1 b2 P n0 t0 n4 n5 n t) (.again) ((YR b1 b2 P n0 t0 n4)) 0 0 [] []
  ([])
def Rw:List Nat:=dO 9 0x2040810004001
def Ct:Out:=
 ev (bS b1 b2 P n t) 21 Rw [] ((YR b1 b2 P n0 t0 n4)) (denF (YR b1 b2 P n0 t0 n4)) ([]) (0) ([(n4+1,rgO kx 0)]) 0 0 [] []
abbrev lawXe_ok:Prop:=XD (Ct b1 b2 P n0 t0 n4 n t kx) 2 0 [] []
  ([])
end
def E6:List Nat:=[]
section
variable(n0 t0 n1 t1 n2 t2 n3 t3 n4 t4 n t:Nat)(sc:Addr)(vs:List Value)(e:Nat)(ws us zs:List Value)(ln:Int)(dl:Addr)(sm:Int)(st q1:Nat)(cs r0 r1 r2:Addr)(ce q2 q4:Nat)(v4:Value)(z0 z1 z2:Int)(u0 u1 u2:Nat)
def lawR:Out:=let xr:=(Ec b1 b2 P n0 t0 n1 t1 n2 t2 n3 t3 n4 t4 sc vs e ws us zs ln dl sm st q1 cs r0 r1 r2 ce q2 q4 v4 z0 z1 z2 u0 u1 u2).res;ev (bS b1 b2 P n t) 7 E6 [] xr.c (xr.k (.ok .next)) xr.K xr.d [] 0 0 [] []
abbrev lawR_ok:Prop:=SegE (lawR b1 b2 P n0 t0 n1 t1 n2 t2 n3 t3 n4 t4 n t sc vs e ws us zs ln dl sm st q1 cs r0 r1 r2 ce q2 q4 v4 z0 z1 z2 u0 u1 u2) (.flow (.ret (.bool true))) (.call .none {}) 0 0 [] []
  ([])
end
abbrev Sm(a b c d:Nat)(e:Addr)(f:List Value)(g:Nat)(h i j:List Value)(k:Int)(l:Addr):Prop:=∀m n o p q,lawC_ok b1 b2 P a b c d m n e f g h i j k l o p q/\∀r s t u v w x,(∀y z A B C D E F G H I,lawE_ok b1 b2 P a b c d m n r s y z e f g h i j k l o p q t u v w x A B C D E F G H I)/\∀y z A B C D E F G H I J K,lawR_ok b1 b2 P a b c d m n r s y z A B e f g h i j k l o p q t u v w x C D E F G H I J K
abbrev AP(a b c:Nat):Prop:=∀d e f g h i j k l m n o p q r s t u,lawXA_s b1 b2 P a b c d e f g h i j k l m n o p q r s t u/\(lawXA b1 b2 P a b c d e f g h i j k l m n o p q r s t u).res=lawRX b1 b2 P a b c d
abbrev AO(a b c:Nat):Prop:=∀d e f g h i j k l m n o p q r s t u v w x y z A B C,lawXB_s b1 b2 P a b c d e f g h i j k l m n o p q r s t u v w x y z A B C/\(lawXB b1 b2 P a b c d e f g h i j k l m n o p q r s t u v w x y z A B C).res=lawRX b1 b2 P a b c d
abbrev tlaw4(a b c d:Nat):Prop:=∀e f g h i j k l m n o p q r s t u v w x,lawYA_s b1 b2 P a b c d e f g h i j k l m n o p q r s t u v w x/\(lawYA b1 b2 P a b c d e f g h i j k l m n o p q r s t u v w x).res=lawRY b1 b2 P a b c d e
abbrev tlaw5(a b c d:Nat):Prop:=∀e f g h i j k l m n o p q r s t u v w x y z A B C D,lawYB_s b1 b2 P a b c d e f g h i j k l m n o p q r s t u v w x y z A B C D/\(lawYB b1 b2 P a b c d e f g h i j k l m n o p q r s t u v w x y z A B C D).res=lawRY b1 b2 P a b c d e
abbrev tlaw7(a b c d e:Nat):Prop:=∀f g h i j k l m n o p q r s t u v w x y z A B C,lawZA_s b1 b2 P a b c d e f g h i j k l m n o p q r s t u v w x y z A B C/\(lawZA b1 b2 P a b c d e f g h i j k l m n o p q r s t u v w x y z A B C).res=lawRZ b1 b2 P a b c d e k f
abbrev tlaw8(a b c d e:Nat):Prop:=∀f g h i j k l m n o p q r s t u v w x y z A B C D E F G,lawZB_s b1 b2 P a b c d e f g h i j k l m n o p q r s t u v w x y z A B C D E F G/\(lawZB b1 b2 P a b c d e f g h i j k l m n o p q r s t u v w x y z A B C D E F G).res=lawRZ b1 b2 P a b c d e k f
abbrev tlaw12(a b c d e f g h G H V W i:Nat)(j k l:Addr)(m n o:Nat)(p q r:Int)(s t u v w x y:Nat)(z A B:Int)(C D E:Nat)(F I:Addr)(J K L:Int)(M N O Q R S T U:Nat):Prop:=∀X Y Z,lawZ5_ok b1 b2 P a b c d e f g h G H V W X Y i j k l m n o p q r s t u v w x y z A B C D E F I J K L M N O Q R S T U Z/\∀xa xb xc xd xe xf xg xh xi xj ya yb yc yd,lawZ6_s b1 b2 P a b c d e f g h G H V W X Y xa xb i j k l m n o p q r s t u v w x y z A B C D E F I J K L M N O Q R S T U Z xc xd xe xf xg xh xi xj ya yb yc yd/\∀ye yf,lawZ7_ok b1 b2 P a b c d e f g h G H V W X Y xa xb ye yf i j k l m n o p q r s t u v w x y z A B C D E F I J K L M N O Q R S T U Z xc xd xe xf xg xh xi xj ya yb yc yd
abbrev tlaw11(a b c d e f g h G H i:Nat)(j k l:Addr)(m n o:Nat)(p q r:Int)(s t u v w x y:Nat)(z A B:Int)(C D E:Nat)(F I:Addr)(J K L:Int)(M N O Q R S T U:Nat):Prop:=∀V W,lawZ4_ok b1 b2 P a b c d e f g h G H V W i j k l m n o p q r s t u v w x y z A B C D E F I J K L M N O Q R S T U/\tlaw12 b1 b2 P a b c d e f g h G H V W i j k l m n o p q r s t u v w x y z A B C D E F I J K L M N O Q R S T U
abbrev tlaw10(a b c d e f g h i:Nat)(j k l:Addr)(m n o:Nat)(p q r:Int)(s t u v w x y:Nat)(z A B:Int)(C D E:Nat)(F:Addr):Prop:=∀G H I J K L M N O Q R S T U,lawZ3_s b1 b2 P a b c d e f g h G H i j k l m n o p q r s t u v w x y z A B C D E F I J K L M N O Q R S T U/\tlaw11 b1 b2 P a b c d e f g h G H i j k l m n o p q r s t u v w x y z A B C D E F I J K L M N O Q R S T U
abbrev tlaw9(a b c d e:Nat):Prop:=∀f g h i j k l m n o p q r s t u v w x y z A B C D E F,lawZ2_s b1 b2 P a b c d e f g h i j k l m n o p q r s t u v w x y z A B C D E F/\tlaw10 b1 b2 P a b c d e f g h i j k l m n o p q r s t u v w x y z A B C D E F
abbrev tlaw6(a b c d:Nat):Prop:=∀e,tlaw7 b1 b2 P a b c d e/\tlaw8 b1 b2 P a b c d e/\tlaw9 b1 b2 P a b c d e/\(∀f g h,lawZe_ok b1 b2 P a b c d e f g h)/\∀f g,lawYE_ok b1 b2 P a b c d e f g
abbrev Sl(a b c:Nat):Prop:=∀d,tlaw4 b1 b2 P a b c d/\tlaw5 b1 b2 P a b c d/\tlaw6 b1 b2 P a b c d/\(∀e f g,lawYe_ok b1 b2 P a b c d e f g)/\∀e f,lawXE_ok b1 b2 P a b c d e f
theorem SJ(a b c d:Nat)(e:Addr)(f:List Value)(g:Nat)(h i j:List Value)(k:Int)(l:Addr):H7 b1 b2 P a b c d e f g h i j k l/\Sm b1 b2 P a b c d e f g h i j k l:=
 ⟨gT,fun _ _ _ _ _=>⟨gT,fun _ _ _ _ _ _ _=>⟨fun _ _ _ _ _ _ _ _ _ _ _=>gT,fun _ _ _ _ _ _ _ _ _ _ _ _ _=>gO⟩⟩⟩
theorem Wj(a b c d:Nat)(e:Addr)(f:List Value)(g:Nat)(h i j:List Value)(k:Int)(l:Addr):Sm b1 b2 P a b c d e f g h i j k l:=(SJ ..).2
theorem Qs(a b c:Nat):AP b1 b2 P a b c/\AO b1 b2 P a b c/\Sl b1 b2 P a b c/\∀d e f,lawXe_ok b1 b2 P a b c d e f:=
 ⟨fun _ _ _ _ _ _ _ _ _ _ _ _ _ _ _ _ _ _=>⟨gO,eO⟩,fun _ _ _ _ _ _ _ _ _ _ _ _ _ _ _ _ _ _ _ _ _ _ _ _ _ _=>⟨gO,eO⟩,fun _=>⟨fun _ _ _ _ _ _ _ _ _ _ _ _ _ _ _ _ _ _ _ _=>⟨gO,eO⟩,fun _ _ _ _ _ _ _ _ _ _ _ _ _ _ _ _ _ _ _ _ _ _ _ _ _ _=>⟨gO,eO⟩,fun _=>⟨fun _ _ _ _ _ _ _ _ _ _ _ _ _ _ _ _ _ _ _ _ _ _ _ _=>⟨gO,eO⟩,fun _ _ _ _ _ _ _ _ _ _ _ _ _ _ _ _ _ _ _ _ _ _ _ _ _ _ _ _=>⟨gO,eO⟩,fun _ _ _ _ _ _ _ _ _ _ _ _ _ _ _ _ _ _ _ _ _ _ _ _ _ _ _=>⟨gO,fun _ _ _ _ _ _ _ _ _ _ _ _ _ _=>⟨gO,fun _ _=>⟨gO,fun _ _ _=>⟨gO,fun _ _ _ _ _ _ _ _ _ _ _ _ _ _=>⟨gO,fun _ _=>gO⟩⟩⟩⟩⟩,fun _ _ _=>gO,fun _ _=>gO⟩,fun _ _ _=>gO,fun _ _=>gO⟩,fun _ _ _=>gO⟩
section
variable(n0 t0 n4 n5 a b c d e f g h G H V W i:Nat)(j k l:Addr)(m n o:Nat)(p q r:Int)(s t n3:Nat)(sc dl cs:Addr)(q1 q2 q3:Nat)(z0 z1 z2:Int)(u0 u1 u2:Nat)(kx rx rx2:Int)(qx qy qz qc:Nat)(xv yv zv cv:Value)(ky ry ry2:Int)(u v w x y:Nat)(z A B:Int)(C D E:Nat)(F I:Addr)(J K L:Int)(M N O Q R S T U:Nat)
theorem qS:Sl b1 b2 P a b c:=(Qs ..).2.2.1
theorem qR:tlaw6 b1 b2 P a b c d:=(qS _ ..).2.2.1
theorem Dy:tlaw9 b1 b2 P a b c d e:=(qR _ ..).2.2.1
theorem Wi:tlaw10 b1 b2 P a b c d e f g h i j k l m n o p q r s t u v w x y z A B C D E F:=(Dy _ ..).2
theorem Wh:tlaw11 b1 b2 P a b c d e f g h G H i j k l m n o p q r s t u v w x y z A B C D E F I J K L M N O Q R S T U:=(Wi _ ..).2
theorem M4:tlaw12 b1 b2 P a b c d e f g h G H V W i j k l m n o p q r s t u v w x y z A B C D E F I J K L M N O Q R S T U:=(Wh _ ..).2
theorem Qn:(lawXA b1 b2 P n0 t0 n4 n t n3 sc dl cs q1 q2 q3 z0 z1 z2 u0 u1 u2 kx rx rx2).res=lawRX b1 b2 P n0 t0 n4 n:=((Qs ..).1 _ ..).2
theorem Qm:(lawXB b1 b2 P n0 t0 n4 n t n3 sc dl cs q1 q2 q3 z0 z1 z2 u0 u1 u2 kx rx rx2 qx qy qz qc xv yv zv cv).res=lawRX b1 b2 P n0 t0 n4 n:=((Qs ..).2.1 _ ..).2
theorem Ql:(lawYA b1 b2 P n0 t0 n4 n5 n t n3 sc dl cs q1 q2 q3 z0 z1 z2 u0 u1 u2 qx xv ky ry ry2).res=lawRY b1 b2 P n0 t0 n4 n5 n:=((qS _ ..).1 _ ..).2
theorem Qk:(lawYB b1 b2 P n0 t0 n4 n5 n t n3 sc dl cs q1 q2 q3 z0 z1 z2 u0 u1 u2 qx qy qz qc xv yv zv cv ky ry ry2).res=lawRY b1 b2 P n0 t0 n4 n5 n:=((qS _ ..).2.1 _ ..).2
end
section
variable(n0 t0 n4 n5 n6 n t n3:Nat)(sc dl cs:Addr)(q1 q2 q3:Nat)(z0 z1 z2:Int)(u0 u1 u2 qx qy:Nat)(kx rx rx2 ky:Int)(tx ty qz qc:Nat)(zv cv:Value)(kz rz rz2:Int)
theorem Qj:(lawZA b1 b2 P n0 t0 n4 n5 n6 n t n3 sc dl cs q1 q2 q3 z0 z1 z2 u0 u1 u2 qx qy kx ky tx ty kz rz rz2).res=lawRZ b1 b2 P n0 t0 n4 n5 n6 cs n:=((qR _ ..).1 _ ..).2
theorem Qi:(lawZB b1 b2 P n0 t0 n4 n5 n6 n t n3 sc dl cs q1 q2 q3 z0 z1 z2 u0 u1 u2 qx qy kx ky tx ty qz qc zv cv kz rz rz2).res=lawRZ b1 b2 P n0 t0 n4 n5 n6 cs n:=((qR _ ..).2.1 _ ..).2
theorem FU:lawXA_s b1 b2 P n0 t0 n4 n t n3 sc dl cs q1 q2 q3 z0 z1 z2 u0 u1 u2 kx rx rx2:=((Qs ..).1 _ ..).1
end
section
variable(n0 t0 n4 n5 n t n3:Nat)(sc dl cs:Addr)(q1 q2 q3:Nat)(z0 z1 z2:Int)(u0 u1 u2:Nat)(kx rx rx2:Int)(qx qy qz qc:Nat)(xv yv zv cv:Value)(ky ry ry2:Int)
theorem TN:lawXB_s b1 b2 P n0 t0 n4 n t n3 sc dl cs q1 q2 q3 z0 z1 z2 u0 u1 u2 kx rx rx2 qx qy qz qc xv yv zv cv:=((Qs ..).2.1 _ ..).1
theorem FT:lawYA_s b1 b2 P n0 t0 n4 n5 n t n3 sc dl cs q1 q2 q3 z0 z1 z2 u0 u1 u2 qx xv ky ry ry2:=((qS _ ..).1 _ ..).1
theorem TM:lawYB_s b1 b2 P n0 t0 n4 n5 n t n3 sc dl cs q1 q2 q3 z0 z1 z2 u0 u1 u2 qx qy qz qc xv yv zv cv ky ry ry2:=((qS _ ..).2.1 _ ..).1
end
section
variable(n0 t0 n4 n5 n6 n t n3:Nat)(sc dl cs:Addr)(q1 q2 q3:Nat)(z0 z1 z2:Int)(u0 u1 u2 qx qy:Nat)(kx ky:Int)(tx ty qz qc:Nat)(zv cv:Value)(kz rz rz2:Int)
theorem TG:lawZA_s b1 b2 P n0 t0 n4 n5 n6 n t n3 sc dl cs q1 q2 q3 z0 z1 z2 u0 u1 u2 qx qy kx ky tx ty kz rz rz2:=((qR _ ..).1 _ ..).1
theorem TF:lawZB_s b1 b2 P n0 t0 n4 n5 n6 n t n3 sc dl cs q1 q2 q3 z0 z1 z2 u0 u1 u2 qx qy kx ky tx ty qz qc zv cv kz rz rz2:=((qR _ ..).2.1 _ ..).1
end
section
variable(n0 t0 n4 n5 n6 n7 n8 t8 n9 t9 n10 t10 n11 t11 n t n3:Nat)(sc dl cs:Addr)(q1 q2 q3:Nat)(z0 z1 z2:Int)(u0 u1 u2 qx qy qz qc:Nat)(kx ky kz:Int)(tx ty tz:Nat)(a b:Addr)(s0 s1 s2:Int)(w0 w1 w2 ea x0 x1 x2 eb:Nat)(a2 bb:Addr)(s0p s1p s2p:Int)(w0p w1p w2p eap x0p x1p x2p ebp:Nat)
theorem TL:lawZ2_s b1 b2 P n0 t0 n4 n5 n6 n7 n t n3 sc dl cs q1 q2 q3 z0 z1 z2 u0 u1 u2 qx qy qz qc kx ky kz tx ty tz a:=(Dy _ ..).1
theorem TJ:lawZ3_s b1 b2 P n0 t0 n4 n5 n6 n7 n8 t8 n t n3 sc dl cs q1 q2 q3 z0 z1 z2 u0 u1 u2 qx qy qz qc kx ky kz tx ty tz a b s0 s1 s2 w0 w1 w2 ea x0 x1 x2 eb:=(Wi _ ..).1
theorem TH:lawZ6_s b1 b2 P n0 t0 n4 n5 n6 n7 n8 t8 n9 t9 n10 t10 n11 t11 n t n3 sc dl cs q1 q2 q3 z0 z1 z2 u0 u1 u2 qx qy qz qc kx ky kz tx ty tz a b s0 s1 s2 w0 w1 w2 ea x0 x1 x2 eb a2 bb s0p s1p s2p w0p w1p w2p eap x0p x1p x2p ebp:=((M4 _ ..).2 ..).1
end
end

theorem F1{a b c:Int}{x y z:Nat}:Ints [.int a x,.int b y,.int c z] [a,b,c]:=⟨rfl,fun i y' h=>by
 match i with
 | 0=>cases h;exact ⟨_,rfl⟩
 | 1=>cases h;exact ⟨_,rfl⟩
 | 2=>cases h;exact ⟨_,rfl⟩
 | i+3=>cases h⟩
theorem Ints.to3{vs:List Value}{a b c:Int}(h:Ints vs [a,b,c]):∃x y z,vs=[.int a x,.int b y,.int c z]:=by
 obtain ⟨x,ws,rfl,h1⟩:=h.tail;obtain ⟨y,us,rfl,h2⟩:=h1.tail;obtain ⟨z,ts,rfl,h3⟩:=h2.tail;have:ts=[]:=List.length_eq_zero_iff.mp h3.len;subst this;exact ⟨x,y,z,rfl⟩
abbrev y6 cs r0 r1 r2 ce dl dcs de(ks0:List CKc) f0(ks1:List CKc) f1(ks2:List CKc) f2:=([(qK cs r0 r1 r2 ce),(XT dl dcs de),(Zi r0 ks0 f0),(Zh r1 ks1 f1),(Zg r2 ks2 f2)]:ZQ)
noncomputable def Dc(cs dl r0 r1 r2:Addr)(ce de f0 f1 f2:Nat)(ks0 ks1 ks2:List CKc)(dcs:List DC):List (Addr×Obj):=
 (y6 cs r0 r1 r2 ce dl dcs de ks0 f0 ks1 f1 ks2 f2)++(ks0.map CKc.cell++(ks1.map CKc.cell++(ks2.map CKc.cell++dcs.map DC.cell)))
structure LW (st:CS) (ks0 ks1 ks2:List CKc) (dcs:List DC):Prop where
 run:Run (dcs.map DC.d) st
 ok:∀d∈dcs,d.Ok
 len:dcs.length=4\/dcs.length=5
 g0:ks0.map CKc.x=(st.r 0).map v3n
 g1:ks1.map CKc.x=(st.r 1).map v3n
 g2:ks2.map CKc.x=(st.r 2).map v3n
 l0:ks0.length<100
 l1:ks1.length<100
 l2:ks2.length<100
theorem YK{ks:List CKc}{r:List N3}(h:ks.map CKc.x=r.map v3n):ks.length=r.length:=by
 have:=congrArg List.length h
 simpa using this
theorem yu{E:List (Addr×Obj)}{r:Addr}{ks:List CKc}{f:Nat}(h:(r,listO (ks.map CKc.val) f)∈E)(hk:∀c∈ks.map CKc.cell,c∈E):RowAt E r (ks.map CKc.x):=by
 refine ⟨ks.map CKc.a,f,?_,by simp,?_⟩
 ·rw [List.map_map];exact h
 ·intro i va hi;rw [List.getElem?_map] at hi;cases hki:ks[i]? with
  | none=>rw [hki] at hi;cases hi
  | some k=>
   rw [hki] at hi;cases hi;refine ⟨k.x,by rw [List.getElem?_map,hki];rfl,⟨k.t0,k.t1,k.t2,k.e,?_⟩⟩;exact hk _ (List.mem_map_of_mem (List.mem_of_getElem? hki))
section
variable{h:Heap}{a b c d e f g:Addr×Obj}{X C C' F K0 K1 K2 DD Y Z:List (Addr×Obj)}
theorem Qb(H:Has h ((c::X)++(F++(C++([a,b,d,e,f]++(K0++(K1++(K2++DD)))))))):Has h (b::c::DD):=by
 have H1:Has h ([c]++([]++([]++([b]++([]++([]++([]++DD))))))):=H.sub (List.Sublist.append (List.singleton_sublist.mpr (.head _)) (List.Sublist.append (List.nil_sublist _) (List.Sublist.append (List.nil_sublist _) (List.Sublist.append (List.singleton_sublist.mpr (.tail _ (.head _))) (List.Sublist.append (List.nil_sublist _) (List.Sublist.append (List.nil_sublist _) (List.Sublist.append (List.nil_sublist _) (List.Sublist.refl _))))))));exact H1.perm (List.Perm.swap b c DD)
theorem Tu(H:Has h ((c::X)++(F++(C++([a,b,d,e,f]++(K0++(K1++(K2++DD)))))))):Has h ([a,c,d,e,f]++(K0++(K1++(K2++DD)))):=by
 have H1:Has h ([c]++([]++([]++([a,d,e,f]++(K0++(K1++(K2++DD))))))):=H.sub (List.Sublist.append (List.singleton_sublist.mpr (.head _)) (List.Sublist.append (List.nil_sublist _) (List.Sublist.append (List.nil_sublist _) (List.Sublist.append (.cons_cons _ (.cons _ (List.Sublist.refl _))) (List.Sublist.refl _)))));exact H1.perm (List.Perm.swap a c _)
theorem Tt(H:Has h ((c::X)++(F++(C++([a,b,d,e,f]++(K0++(K1++(K2++DD)))))))):Has h ([b,c]++(DD++[])):=by
 rw [List.append_nil];exact Qb H
theorem DQ(H:Has h ((c::X)++(F++(C++([a,b,d,e,f]++Z))))):Has h (C++([a,c]++(X++(F++([b,d,e,f]++Z))))):=by
 refine H.perm ?_;show List.Perm ((c::X)++(F++(C++(a::([b,d,e,f]++Z))))) (C++(a::c::(X++(F++([b,d,e,f]++Z)))));generalize [b,d,e,f]++Z=W;have p1:List.Perm ((c::X)++(F++(C++(a::W)))) (C++((c::X)++(F++(a::W)))):=
  (List.Perm.append_left _ (List.perm_append_comm_assoc F C _)).trans (List.perm_append_comm_assoc (c::X) C _)
 refine p1.trans (List.Perm.append_left C ?_);have p2:List.Perm ((c::X)++(F++(a::W))) (a::((c::X)++(F++W))):=by
  rw [←List.append_assoc,←List.append_assoc];exact List.perm_middle
 exact p2
theorem D6(H:Has h ([g]++(C++([a,c]++(X++(F++([b,d,e,f]++Z))))))):Has h ((c::g::X)++(F++(C++([a,b,d,e,f]++Z)))):=by
 refine H.perm ?_;show List.Perm (g::(C++(a::c::(X++(F++([b,d,e,f]++Z)))))) (c::g::(X++(F++(C++(a::([b,d,e,f]++Z))))));generalize [b,d,e,f]++Z=W;have p1:List.Perm (X++(F++(C++(a::W)))) (C++(X++(F++(a::W)))):=
  (List.Perm.append_left _ (List.perm_append_comm_assoc F C _)).trans (List.perm_append_comm_assoc X C _)
 have p2:List.Perm (X++(F++(a::W))) (a::(X++(F++W))):=by
  rw [←List.append_assoc,←List.append_assoc];exact List.perm_middle
 have p3:List.Perm (C++(a::c::(X++(F++W)))) (c::(C++(a::(X++(F++W))))):=by
  have:List.Perm (a::c::(X++(F++W))) (c::a::(X++(F++W))):=List.Perm.swap _ _ _;exact (List.Perm.append_left C this).trans List.perm_middle
 refine (List.Perm.cons g p3).trans ((List.Perm.swap c g _).trans (List.Perm.cons c (List.Perm.cons g ?_)));exact (List.Perm.append_left C p2.symm).trans p1.symm
end
section
variable{w:World}{A:Around}{g:Array GenState}{dr:Drawn}{os:OsState}
theorem GZ{R:Result->Shared->Prop}{h:Heap}{tk:Nat}{oc:Option CC}{cs ct r0 r1 r2:Addr}{es s0 s1 s2 ec:Nat}{c3:V3}{xs0 xs1 xs2:List V3}{k0 k1 k2:Nat}{E:List (Addr×Obj)}(rm:Room 220 A)(hp:Prog (PP w) h) (H:Has h (CC.cells oc++([(XL cs r0 r1 r2 es),(ct,v3O c3 s0 s1 s2 ec)]++E)))(R0:RowAt E r0 xs0)(R1:RowAt E r1 xs1)(R2:RowAt E r2 xs2)(hl0:xs0.length<100)(hl1:xs1.length<100)(hl2:xs2.length<100) (hk0:∀(i:Nat) (x:V3),xs0[i]? =some x->beyV x c3=decide (k0<=i))(hk1:∀(i:Nat) (x:V3),xs1[i]? =some x->beyV x c3=decide (k1<=i))(hk2:∀(i:Nat) (x:V3),xs2[i]? =some x->beyV x c3=decide (k2<=i)) (hb0:k0<=xs0.length)(hb1:k1<=xs1.length)(hb2:k2<=xs2.length) (Hn:∀h' tk' r u0 u1 u2 cc',Prog (PP w) h'->Ext [239] h h'->h.objs.size<=r->Has h' ([(r,listO [.int (k0:Nat) u0,.int (k1:Nat) u1,.int (k2:Nat) u2] 3)]++(CC.cells (some cc')++([(XL cs r0 r1 r2 es),(ct,v3O c3 s0 s1 s2 ec)]++E)))->R (.ok (.ret (.ref r))) ⟨h',g,dr,tk',os⟩): codeAny (model pw w) A (.call (.ref 242) ⟨[.ref cs,.ref ct],[]⟩) R ⟨h,g,dr,tk,os⟩:=by
 cases oc with
 | none=>exact QT rm hp H R0 R1 R2 hl0 hl1 hl2 hk0 hk1 hk2 hb0 hb1 hb2 Hn
 | some c=>exact QU (c:=c) rm hp H R0 R1 R2 hl0 hl1 hl2 hk0 hk1 hk2 hb0 hb1 hb2 Hn
end
theorem AD{B:Nat}{h h2 h3 h4 h5 h6 h7 h8 h9 h10 h11:Heap}{a2 bb:Addr}(hB:B<=h.objs.size)(X2:Ext [239] h h2)(X3:Ext [] h2 h3)(X4:Ext [] h3 h4)(X5:Ext [] h4 h5)(X6:Ext [] h5 h6)(X7:Ext [] h6 h7)(X8:Ext [] h7 h8)(X9:Ext [] h8 h9)(X10:Ext [] h9 h10)(X11:Ext [a2,bb] h10 h11)(ha2:h6.objs.size<=a2)(hbb:h8.objs.size<=bb):Old B h h11:=by
 have o2:Old B h h2:=Old.of X2 (all_cons (.inr rfl) Xq);have o3:Old B h2 h3:=Old.of X3 Xq;have o4:Old B h3 h4:=Old.of X4 Xq;have o5:Old B h4 h5:=Old.of X5 Xq;have o6:Old B h5 h6:=Old.of X6 Xq;have o7:Old B h6 h7:=Old.of X7 Xq;have o8:Old B h7 h8:=Old.of X8 Xq;have o9:Old B h8 h9:=Old.of X9 Xq;have o10:Old B h9 h10:=Old.of X10 Xq;have q6:=o2.trans (o3.trans (o4.trans (o5.trans o6)));have q8:=q6.trans (o7.trans o8);have o11:Old B h10 h11:=Old.of X11 (all_cons (.inl (Nat.le_trans hB (Nat.le_trans q6.size ha2))) (all_cons (.inl (Nat.le_trans hB (Nat.le_trans q8.size hbb))) Xq));exact q8.trans (o9.trans (o10.trans o11))
theorem Jt(b1 b2:Bool)(P:Params)(n0 t0 n4 n5:Nat):(weightF (lawRX b1 b2 P n0 t0 n4 n5).callee,quietF (lawRX b1 b2 P n0 t0 n4 n5).callee)=(0,true):=(FU ..).wq
theorem Zw(b1 b2:Bool)(P:Params)(n0 t0 n4 n5 n6:Nat):(weightF (lawRY b1 b2 P n0 t0 n4 n5 n6).callee,quietF (lawRY b1 b2 P n0 t0 n4 n5 n6).callee)=(0,true):=(FT ..).wq
theorem JJ(b1 b2:Bool)(P:Params)(n0 t0 n4 n5 n6 cs n7:Nat):(lawRZ b1 b2 P n0 t0 n4 n5 n6 cs n7).callee=.call (.ref 242) ⟨[.ref cs,.ref (n7+0)],[]⟩:=by cases b1<;>kernel_rfl
section
variable{w:World}{A:Around}{g:Array GenState}{dr:Drawn}{os:OsState}{n0 t0 n4 n5 n6 n3:Nat}{sc dl cs:Addr}{q1 q2 q3:Nat}{z0 z1 z2:Int}{u0 u1 u2:Nat}{r0 r1 r2:Addr}{ce de f0 f1 f2:Nat}{ks0 ks1 ks2:List CKc}{dcs:List DC}{st:CS}
abbrev BH n0(w:World) t0 sc q1 dl q2 cs q3 n3 qx kx tx qy ky ty qz kz tz qc n7:=((n0+0,frameO [kn26 w.params (t0+0) (.ref sc),kn1 w.params q1 (.ref dl),kn27 w.params q2 (.ref cs),kn28 w.params q3 (.ref (n3+1)),kn11 w.params qx (.int kx tx),kn29 w.params qy (.int ky ty),kn30 w.params qz (.int kz tz),kn2 w.params qc (.ref (n7+0))] 8):Xp)
abbrev BJ a2(ks0:List CKc)(ks1:List CKc)(ks2:List CKc) kx ky kz w0p w1p w2p:=((a2,listO [.int (aroM (·.1) (ks0.map CKc.x) (ks1.map CKc.x) (ks2.map CKc.x) (kx,ky,kz)) w0p,.int (aroM (·.2.1) (ks0.map CKc.x) (ks1.map CKc.x) (ks2.map CKc.x) (kx,ky,kz)) w1p,.int (aroM (·.2.2) (ks0.map CKc.x) (ks1.map CKc.x) (ks2.map CKc.x) (kx,ky,kz)) w2p] 3):Xp)
abbrev Eu bb(ks0:List CKc)(ks1:List CKc)(ks2:List CKc) kx ky kz x0p x1p x2p ebp:=((bb,listO [.int (aroM (·.1) (ks0.map CKc.x) (ks1.map CKc.x) (ks2.map CKc.x) (kx,ky,kz)) x0p,.int (aroM (·.2.1) (ks0.map CKc.x) (ks1.map CKc.x) (ks2.map CKc.x) (kx,ky,kz)) x1p,.int (aroM (·.2.2) (ks0.map CKc.x) (ks1.map CKc.x) (ks2.map CKc.x) (kx,ky,kz)) x2p] ebp):Xp)
abbrev Z3(w:World) n0 t0 n4 n5 n6 cs n7:=(lawRZ (W1 w) (W2 w) w.params n0 t0 n4 n5 n6 cs n7)
abbrev qM(w:World) n0 t0 n4 n5 n6:=(lawRY (W1 w) (W2 w) w.params n0 t0 n4 n5 n6)
abbrev Vm a k0 w0 k1 w1 k2 w2:=((a,listO [.int (k0:Nat) w0,.int (k1:Nat) w1,.int (k2:Nat) w2] 3):Xp)
abbrev ZF n7 kx ky kz tx ty tz:=((n7+0,v3O (kx,ky,kz) tx ty tz 0):Xp)
theorem R5{B:Nat}{R:Result->Shared->Prop}{h:Heap}{tk n7:Nat}{oc:Option CC}{F:List (Addr×Obj)}{qx qy qz qc:Nat}{kx ky kz:Int}{tx ty tz:Nat}(rmA:Room 240 A)(l:LW st ks0 ks1 ks2 dcs)(hp:Prog (PP w) h)(hB:B<=h.objs.size) (hx0:0<=kx)(hx1:kx<=ks0.length)(hy0:0<=ky)(hy1:ky<=ks1.length)(hz0:0<=kz)(hz1:kz<=ks2.length)
  (kk1:KOk true A (Z3 w n0 t0 n4 n5 n6 cs n7).K)(dd1:(ar true A (Z3 w n0 t0 n4 n5 n6 cs n7).K (Z3 w n0 t0 n4 n5 n6 cs n7).c).depth<=A.depth+(Z3 w n0 t0 n4 n5 n6 cs n7).d)(rm1:Room 220 ((ar true A (Z3 w n0 t0 n4 n5 n6 cs n7).K (Z3 w n0 t0 n4 n5 n6 cs n7).c).mark none)) (H:Has h ([(ZF n7 kx ky kz tx ty tz),(BH n0 w t0 sc q1 dl q2 cs q3 n3 qx kx tx qy ky ty qz kz tz qc n7)]++(F++(CC.cells (oc)++Dc cs dl r0 r1 r2 ce de f0 f1 f2 ks0 ks1 ks2 dcs)))) (Hn:∀h' tk' cc',Prog (PP w) h'->Old B h h'->Has h' ([(BH n0 w t0 sc q1 dl q2 cs q3 n3 qx kx tx qy ky ty qz kz tz qc n7)]++(F++(CC.cells (some cc')++Dc cs dl r0 r1 r2 ce de f0 f1 f2 ks0 ks1 ks2 dcs)))->codeAny (model pw w) A (qM w n0 t0 n4 n5 n6).callee R ⟨h',g,dr,tk',os⟩): codeAny (model pw w) ((ar true A (Z3 w n0 t0 n4 n5 n6 cs n7).K (Z3 w n0 t0 n4 n5 n6 cs n7).c).mark none) (.call (.ref 242) ⟨[.ref cs,.ref (n7+0)],[]⟩) (fun r s'=>Goes true (model pw w) A (qOf R) (eOf R) (Z3 w n0 t0 n4 n5 n6 cs n7).K (Z3 w n0 t0 n4 n5 n6 cs n7).c ((Z3 w n0 t0 n4 n5 n6 cs n7).k r) s') ⟨h,g,dr,tk,os⟩:=by
 have e0:=YK l.g0;have e1:=YK l.g1;have e2:=YK l.g2;obtain ⟨k0,k1,k2,hk,b0,b1,b2,y0,y1,y2⟩:=l.run.keptL (c:=(kx,ky,kz)) hx0 hy0 hz0;have ht:=l.run.takL (c:=(kx,ky,kz)) hx0 hy0 hz0 (by rw [←e0];exact hx1) (by rw [←e1];exact hy1) (by rw [←e2];exact hz1);rw [←l.g0] at y0;rw [←l.g1] at y1;rw [←l.g2] at y2;rw [←l.g0,←l.g1,←l.g2] at ht;unfold Dc at H;have Hw:=DQ H;refine GZ rm1 hp Hw (yu (f:=f0) ?_ ?_) (yu (f:=f1) ?_ ?_) (yu (f:=f2) ?_ ?_) (by rw [List.length_map];exact l.l0) (by rw [List.length_map];exact l.l1) (by rw [List.length_map];exact l.l2) y0 y1 y2 (by rw [List.length_map,e0];exact b0) (by rw [List.length_map,e1];exact b1) (by rw [List.length_map,e2];exact b2) ?_
 ·exact List.mem_append_right _ (List.mem_append_right _ (List.mem_append_left _ (.tail _ (.head _))))
 ·exact fun c hc=>List.mem_append_right _ (List.mem_append_right _ (List.mem_append_right _ (List.mem_append_left _ hc)))
 ·exact List.mem_append_right _ (List.mem_append_right _ (List.mem_append_left _ (.tail _ (.tail _ (.head _)))))
 ·exact fun c hc=>List.mem_append_right _ (List.mem_append_right _ (List.mem_append_right _ (List.mem_append_right _ (List.mem_append_left _ hc))))
 ·exact List.mem_append_right _ (List.mem_append_right _ (List.mem_append_left _ (.tail _ (.tail _ (.tail _ (.head _))))))
 ·exact fun c hc=>List.mem_append_right _ (List.mem_append_right _ (List.mem_append_right _ (List.mem_append_right _ (List.mem_append_right _ (List.mem_append_left _ hc)))))
 intro h2 tk2 a w0 w1 w2 cc hp2 X2 _ S2;have T2:=D6 S2;clear S2 Hw H;refine Xh (k:=60) [2] [0,1] [] (TL (W1 w) (W2 w) w.params n0 t0 n4 n5 n6 n7 h2.objs.size tk2 n3 sc dl cs q1 q2 q3 0 0 0 0 0 0 qx qy qz qc kx ky kz tx ty tz a).sg rfl Xn rmA hp2 T2 rfl rfl (Xf (lm:=[]) [0] rfl rfl) dd1 kk1 ?_;intro h3 hp3 S3 X3 _ st3;have T3:Has h3 (((ZF n7 kx ky kz tx ty tz)::[(Vm a k0 w0 k1 w1 k2 w2),(BH n0 w t0 sc q1 dl q2 cs q3 n3 qx kx tx qy ky ty qz kz tz qc n7)])++(F++(CC.cells (some cc)++((y6 cs r0 r1 r2 ce dl dcs de ks0 f0 ks1 f1 ks2 f2)++(ks0.map CKc.cell++(ks1.map CKc.cell++(ks2.map CKc.cell++dcs.map DC.cell))))))):=Has.re2 S3 [1,2,0] rfl;refine Bl (st3.rm.le (by decide)) hp3 rfl l.ok (by rw [List.length_map];exact l.len) (F1 (a:=kx) (b:=ky) (c:=kz) (x:=tx) (y:=ty) (z:=tz)) rfl (Qb T3) ?_;intro h4 tk4 b vs eb hp4 X4 hb S4 I4;have hk':keptF (dcs.map DC.d) [kx,ky,kz]=[(k0:Int),(k1:Int),(k2:Int)]:=hk;rw [hk'] at I4;obtain ⟨x0,x1,x2,rfl⟩:=I4.to3;have T4:Has h4 ([(b,listO [.int (k0:Nat) x0,.int (k1:Nat) x1,.int (k2:Nat) x2] eb),(ZF n7 kx ky kz tx ty tz),(Vm a k0 w0 k1 w1 k2 w2),(BH n0 w t0 sc q1 dl q2 cs q3 n3 qx kx tx qy ky ty qz kz tz qc n7)]++(F++(CC.cells (some cc)++((y6 cs r0 r1 r2 ce dl dcs de ks0 f0 ks1 f1 ks2 f2)++(ks0.map CKc.cell++(ks1.map CKc.cell++(ks2.map CKc.cell++dcs.map DC.cell))))))):=Has.new (nw:=[(b,listO [.int (k0:Nat) x0,.int (k1:Nat) x1,.int (k2:Nat) x2] eb)]) (l:=[(ZF n7 kx ky kz tx ty tz),(Vm a k0 w0 k1 w1 k2 w2),(BH n0 w t0 sc q1 dl q2 cs q3 n3 qx kx tx qy ky ty qz kz tz qc n7)]++(F++(CC.cells (some cc)++((y6 cs r0 r1 r2 ce dl dcs de ks0 f0 ks1 f1 ks2 f2)++(ks0.map CKc.cell++(ks1.map CKc.cell++(ks2.map CKc.cell++dcs.map DC.cell))))))) T3 X4 S4 (fun p hp=>by rw [List.mem_singleton.mp hp];exact hb);clear S3 T3 S4 T2;refine QY [2,0] [1,3] [] (Bk (W1 w) (W2 w) w.params n0 t0 n4 n5 n6 n7 h2.objs.size tk2 h4.objs.size tk4 n3 sc dl cs q1 q2 q3 0 0 0 0 0 0 qx qy qz qc kx ky kz tx ty tz a b (k0:Int) (k1:Int) (k2:Int) w0 w1 w2 3 x0 x1 x2 eb) (TJ (W1 w) (W2 w) w.params n0 t0 n4 n5 n6 n7 h2.objs.size tk2 h4.objs.size tk4 n3 sc dl cs q1 q2 q3 0 0 0 0 0 0 qx qy qz qc kx ky kz tx ty tz a b (k0:Int) (k1:Int) (k2:Int) w0 w1 w2 3 x0 x1 x2 eb).sg rfl Xn rmA hp4 T4 rfl rfl (Xf (lm:=[]) [0,1] rfl rfl) st3.dd st3.kk ?_;intro h5 hp5 S5 X5 _ kk5 dd5;refine Xh (k:=140) (L:=[(Vm a k0 w0 k1 w1 k2 w2),(b,listO [.int (k0:Nat) x0,.int (k1:Nat) x1,.int (k2:Nat) x2] eb),(ZF n7 kx ky kz tx ty tz),(BH n0 w t0 sc q1 dl q2 cs q3 n3 qx kx tx qy ky ty qz kz tz qc n7)]) [0,1,3] [2] [] (Wh _ ..).1.sg rfl (ob (Sz F1 F1) Xn) rmA hp5 S5 rfl rfl (Xf (lm:=[]) [0,1,2] rfl rfl) dd5 kk5 ?_;intro h6 hp6 S6 X6 _ st6;have T6:Has h6 (((ZF n7 kx ky kz tx ty tz)::[(BH n0 w t0 sc q1 dl q2 cs q3 n3 qx kx tx qy ky ty qz kz tz qc n7)])++(F++(CC.cells (some cc)++((y6 cs r0 r1 r2 ce dl dcs de ks0 f0 ks1 f1 ks2 f2)++(ks0.map CKc.cell++(ks1.map CKc.cell++(ks2.map CKc.cell++dcs.map DC.cell))))))):=Has.re2 S6 [3,2] rfl;clear S5 S6 T4;refine GP (st6.rm.le (by decide)) hp6 hx1 hy1 hz1 l.l0 l.l1 l.l2 (Tu T6) ?_;intro h7 tk7 a2 w0p w1p w2p hp7 X7 ha2 S7;have T7:Has h7 ([(BJ a2 ks0 ks1 ks2 kx ky kz w0p w1p w2p),(ZF n7 kx ky kz tx ty tz),(BH n0 w t0 sc q1 dl q2 cs q3 n3 qx kx tx qy ky ty qz kz tz qc n7)]++(F++(CC.cells (some cc)++((y6 cs r0 r1 r2 ce dl dcs de ks0 f0 ks1 f1 ks2 f2)++(ks0.map CKc.cell++(ks1.map CKc.cell++(ks2.map CKc.cell++dcs.map DC.cell))))))):=Has.new (nw:=[(BJ a2 ks0 ks1 ks2 kx ky kz w0p w1p w2p)]) (l:=[(ZF n7 kx ky kz tx ty tz),(BH n0 w t0 sc q1 dl q2 cs q3 n3 qx kx tx qy ky ty qz kz tz qc n7)]++(F++(CC.cells (some cc)++((y6 cs r0 r1 r2 ce dl dcs de ks0 f0 ks1 f1 ks2 f2)++(ks0.map CKc.cell++(ks1.map CKc.cell++(ks2.map CKc.cell++dcs.map DC.cell))))))) T6 X7 S7 (fun p hp=>by rw [List.mem_singleton.mp hp];exact ha2);refine Xh (k:=60) [2] [0,1] [] (M4 _ ..).1.sg rfl Xn rmA hp7 T7 rfl rfl (Xf (lm:=[]) [0] rfl rfl) st6.dd st6.kk ?_;intro h8 hp8 S8 X8 _ st8;have T8:Has h8 (((ZF n7 kx ky kz tx ty tz)::[(BJ a2 ks0 ks1 ks2 kx ky kz w0p w1p w2p),(BH n0 w t0 sc q1 dl q2 cs q3 n3 qx kx tx qy ky ty qz kz tz qc n7)])++(F++(CC.cells (some cc)++((y6 cs r0 r1 r2 ce dl dcs de ks0 f0 ks1 f1 ks2 f2)++(ks0.map CKc.cell++(ks1.map CKc.cell++(ks2.map CKc.cell++dcs.map DC.cell))))))):=Has.re2 S8 [2,1,0] rfl;clear S8 T7 S7 T6;refine G0 (st8.rm.le (by decide)) hp8 l.len l.ok (Tt T8) ?_;intro h9 tk9 bb vs2 ebp hp9 X9 hbb S9 I9;rw [ht] at I9;obtain ⟨x0p,x1p,x2p,rfl⟩:=I9.to3;have T9:Has h9 ([(Eu bb ks0 ks1 ks2 kx ky kz x0p x1p x2p ebp),(ZF n7 kx ky kz tx ty tz),(BJ a2 ks0 ks1 ks2 kx ky kz w0p w1p w2p),(BH n0 w t0 sc q1 dl q2 cs q3 n3 qx kx tx qy ky ty qz kz tz qc n7)]++(F++(CC.cells (some cc)++((y6 cs r0 r1 r2 ce dl dcs de ks0 f0 ks1 f1 ks2 f2)++(ks0.map CKc.cell++(ks1.map CKc.cell++(ks2.map CKc.cell++dcs.map DC.cell))))))):=Has.new (nw:=[(Eu bb ks0 ks1 ks2 kx ky kz x0p x1p x2p ebp)]) (l:=[(ZF n7 kx ky kz tx ty tz),(BJ a2 ks0 ks1 ks2 kx ky kz w0p w1p w2p),(BH n0 w t0 sc q1 dl q2 cs q3 n3 qx kx tx qy ky ty qz kz tz qc n7)]++(F++(CC.cells (some cc)++((y6 cs r0 r1 r2 ce dl dcs de ks0 f0 ks1 f1 ks2 f2)++(ks0.map CKc.cell++(ks1.map CKc.cell++(ks2.map CKc.cell++dcs.map DC.cell))))))) T8 X9 S9 (fun p hp=>by rw [List.mem_singleton.mp hp];exact hbb);clear S9 T8;refine QY [2,0] [1,3] [] (Bj (W1 w) (W2 w) w.params n0 t0 n4 n5 n6 n7 h2.objs.size tk2 h4.objs.size tk4 h5.objs.size _ h7.objs.size tk7 h9.objs.size tk9 n3 sc dl cs q1 q2 q3 0 0 0 0 0 0 qx qy qz qc kx ky kz tx ty tz a b (k0:Int) (k1:Int) (k2:Int) w0 w1 w2 3 x0 x1 x2 eb a2 bb (aroM (·.1) (ks0.map CKc.x) (ks1.map CKc.x) (ks2.map CKc.x) (kx,ky,kz)) (aroM (·.2.1) (ks0.map CKc.x) (ks1.map CKc.x) (ks2.map CKc.x) (kx,ky,kz)) (aroM (·.2.2) (ks0.map CKc.x) (ks1.map CKc.x) (ks2.map CKc.x) (kx,ky,kz)) w0p w1p w2p 3 x0p x1p x2p ebp) (TH (W1 w) (W2 w) w.params n0 t0 n4 n5 n6 n7 h2.objs.size tk2 h4.objs.size tk4 h5.objs.size _ h7.objs.size tk7 h9.objs.size tk9 n3 sc dl cs q1 q2 q3 0 0 0 0 0 0 qx qy qz qc kx ky kz tx ty tz a b (k0:Int) (k1:Int) (k2:Int) w0 w1 w2 3 x0 x1 x2 eb a2 bb (aroM (·.1) (ks0.map CKc.x) (ks1.map CKc.x) (ks2.map CKc.x) (kx,ky,kz)) (aroM (·.2.1) (ks0.map CKc.x) (ks1.map CKc.x) (ks2.map CKc.x) (kx,ky,kz)) (aroM (·.2.2) (ks0.map CKc.x) (ks1.map CKc.x) (ks2.map CKc.x) (kx,ky,kz)) w0p w1p w2p 3 x0p x1p x2p ebp).sg rfl Xn rmA hp9 T9 rfl rfl (Xf (lm:=[]) [0,1] rfl rfl) st8.dd st8.kk ?_;intro h10 hp10 S10 X10 _ kk10 dd10;have hq:=Zw (W1 w) (W2 w) w.params n0 t0 n4 n5 n6;simp only [Prod.mk.injEq] at hq;refine Xy (L:=[(BJ a2 ks0 ks1 ks2 kx ky kz w0p w1p w2p),(Eu bb ks0 ks1 ks2 kx ky kz x0p x1p x2p ebp),(ZF n7 kx ky kz tx ty tz),(BH n0 w t0 sc q1 dl q2 cs q3 n3 qx kx tx qy ky ty qz kz tz qc n7)]) [0,1] [3] [a2,bb] (((M4 _ ..).2 ..).2 ..).sg rfl (ob (Sz F1 F1) Xn) (by rw [Xk];exact hq.2) rmA hp10 S10 rfl rfl XS dd10 kk10 ?_;intro h11 hp11 S11 X11;rw [Xt];exact Hn h11 _ cc hp11 (AD hB X2 X3 X4 X5 X6 X7 X8 X9 X10 X11 ha2 hbb) S11
end

theorem JH{as:List Addr}{cs:List (Addr×Obj)}:∀p∈([]:List (Addr×Obj)),p.1∈as\/p∈cs:=fun _ hp=>(nomatch hp)
section
variable{w:World}{A:Around}{g:Array GenState}{dr:Drawn}{os:OsState}{n0 t0 n4 n5 n6 n3:Nat}{sc dl cs:Addr}{q1 q2 q3:Nat}{u0 u1 u2:Nat}{r0 r1 r2:Addr}{ce de f0 f1 f2:Nat}{ks0 ks1 ks2:List CKc}{dcs:List DC}{st:CS}{R:Result->Shared->Prop}{F:List (Addr×Obj)}
abbrev Et n0(w:World) t0 sc q1 dl q2 cs q3 n3 qx kx tx qy ky ty tk kz(h:Heap):=((n0+0,frameO [kn26 w.params (t0+0) (.ref sc),kn1 w.params q1 (.ref dl),kn27 w.params q2 (.ref cs),kn28 w.params q3 (.ref (n3+1)),kn11 w.params qx (.int kx tx),kn29 w.params qy (.int ky ty),kn30 w.params (tk+1) (.int kz (tk+0)),kn2 w.params (tk+2) (.ref (h.objs.size+0))] 8):Xp)
abbrev UE n0(w:World) t0 sc q1 dl q2 cs q3 n3 qx kx tx qy ky ty:=((n0+0,frameO [kn26 w.params (t0+0) (.ref sc),kn1 w.params q1 (.ref dl),kn27 w.params q2 (.ref cs),kn28 w.params q3 (.ref (n3+1)),kn11 w.params qx (.int kx tx),kn29 w.params qy (.int ky ty)] 6):Xp)
abbrev JZ n6 kz m:=((n6+1,rgO (kz+1) (m:Nat)):Xp)
abbrev Db n6 kz m n0(w:World) t0 sc q1 dl q2 cs q3 n3 qx kx tx qy ky ty qz' tz' qc' n7:=([(JZ n6 kz m),(n0+0,frameO [kn26 w.params (t0+0) (.ref sc),kn1 w.params q1 (.ref dl),kn27 w.params q2 (.ref cs),kn28 w.params q3 (.ref (n3+1)),kn11 w.params qx (.int kx tx),kn29 w.params qy (.int ky ty),kn30 w.params qz' (.int kz tz'),kn2 w.params qc' (.ref n7)] 8)]:ZQ)
abbrev N8 n6 kz m:=((n6+1,rgO kz ((m+1:Nat):Int)):Xp)
theorem DI{B:Nat}{h:Heap}{tk:Nat}{oc:Option CC}{qx qy:Nat}{kx ky kz:Int}{tx ty m:Nat}(rmA:Room 240 A)(b0:B<=n0)(b6:B<=n6)(hB:B<=h.objs.size)(l:LW st ks0 ks1 ks2 dcs)(hp:Prog (PP w) h)(hx0:0<=kx)(hx1:kx<=ks0.length)(hy0:0<=ky)(hy1:ky<=ks1.length)(hz0:0<=kz)(hz1:kz<=ks2.length) (H:Has h ([(N8 n6 kz m),(UE n0 w t0 sc q1 dl q2 cs q3 n3 qx kx tx qy ky ty)]++(F++(CC.cells (oc)++Dc cs dl r0 r1 r2 ce de f0 f1 f2 ks0 ks1 ks2 dcs)))) (Hn:∀h' tk' cc' qz' qc' tz' n7,Prog (PP w) h'->Old B h h'->Has h' ((Db n6 kz m n0 w t0 sc q1 dl q2 cs q3 n3 qx kx tx qy ky ty qz' tz' qc' n7)++(F++(CC.cells (some cc')++Dc cs dl r0 r1 r2 ce de f0 f1 f2 ks0 ks1 ks2 dcs)))->codeAny (model pw w) A (qM w n0 t0 n4 n5 n6).callee R ⟨h',g,dr,tk',os⟩): codeAny (model pw w) A (qM w n0 t0 n4 n5 n6).callee R ⟨h,g,dr,tk,os⟩:=by
 have hw:=Zw (W1 w) (W2 w) w.params n0 t0 n4 n5 n6;simp only [Prod.mk.injEq] at hw;refine Xi ?_;refine Xh (k:=220) [0,1] [] [n6+1,n0+0] (TG (W1 w) (W2 w) w.params n0 t0 n4 n5 n6 h.objs.size tk n3 sc dl cs q1 q2 q3 0 0 0 0 0 0 qx qy kx ky tx ty kz ((m+1:Nat):Int) (m:Nat)).sg rfl (ob (YM (by omega) (by omega)) Xn) rmA hp H rfl rfl (Xf (lm:=[(N8 n6 kz m),(UE n0 w t0 sc q1 dl q2 cs q3 n3 qx kx tx qy ky ty)]) [] rfl rfl) (Xg hw.1) trivial ?_;intro h1 hp1 S1 X1 _ st1;have kk:=st1.kk;have dd:=st1.dd;have rm:=st1.rm;rw [Qj] at kk dd rm;rw [Qj,JJ];have o1:Old B h h1:=Old.of X1 (all_cons (.inl (Nat.le_trans b6 (lar))) (all_cons (.inl (Nat.le_trans b0 (lar))) Xq));have T1:Has h1 ([(h.objs.size+0,v3O (kx,ky,kz) tx ty (tk+0) 0),(Et n0 w t0 sc q1 dl q2 cs q3 n3 qx kx tx qy ky ty tk kz h),(JZ n6 kz m)]++(F++(CC.cells (oc)++Dc cs dl r0 r1 r2 ce de f0 f1 f2 ks0 ks1 ks2 dcs))):=Has.re2 S1 [0,2,1] rfl;refine R5 (n7:=h.objs.size) (F:=(JZ n6 kz m)::F) (B:=B) rmA l hp1 (Nat.le_trans hB o1.size) hx0 hx1 hy0 hy1 hz0 hz1 kk dd rm T1 ?_;intro h2 tk2 cc2 hp2 o2 S2;have T2:Has h2 ([(JZ n6 kz m),(Et n0 w t0 sc q1 dl q2 cs q3 n3 qx kx tx qy ky ty tk kz h)]++(F++(CC.cells (some cc2)++Dc cs dl r0 r1 r2 ce de f0 f1 f2 ks0 ks1 ks2 dcs))):=Has.re (l:=[(Et n0 w t0 sc q1 dl q2 cs q3 n3 qx kx tx qy ky ty tk kz h),(JZ n6 kz m)]) S2 [1,0] rfl;exact Hn h2 tk2 cc2 _ _ _ _ hp2 (o1.trans o2) T2
abbrev Lp n0(w:World) t0 sc q1 dl q2 cs q3 n3 qx kx tx qy ky ty qz zv qc cv:=((n0+0,frameO [kn26 w.params (t0+0) (.ref sc),kn1 w.params q1 (.ref dl),kn27 w.params q2 (.ref cs),kn28 w.params q3 (.ref (n3+1)),kn11 w.params qx (.int kx tx),kn29 w.params qy (.int ky ty),kn30 w.params qz zv,kn2 w.params qc cv] 8):Xp)
abbrev Es n0(w:World) t0 sc q1 dl q2 cs q3 n3 qx kx tx qy ky ty qz kz tk qc(h:Heap):=((n0+0,frameO [kn26 w.params (t0+0) (.ref sc),kn1 w.params q1 (.ref dl),kn27 w.params q2 (.ref cs),kn28 w.params q3 (.ref (n3+1)),kn11 w.params qx (.int kx tx),kn29 w.params qy (.int ky ty),kn30 w.params qz (.int kz (tk+0)),kn2 w.params qc (.ref (h.objs.size+0))] 8):Xp)
theorem DH{B:Nat}{h:Heap}{tk:Nat}{oc:Option CC}{qx qy:Nat}{kx ky kz:Int}{tx ty m:Nat}{zv cv:Value}{qz qc:Nat}(rmA:Room 240 A)(b0:B<=n0)(b6:B<=n6)(hB:B<=h.objs.size)(l:LW st ks0 ks1 ks2 dcs)(hp:Prog (PP w) h)(hx0:0<=kx)(hx1:kx<=ks0.length)(hy0:0<=ky)(hy1:ky<=ks1.length)(hz0:0<=kz)(hz1:kz<=ks2.length) (H:Has h ([(N8 n6 kz m),(Lp n0 w t0 sc q1 dl q2 cs q3 n3 qx kx tx qy ky ty qz zv qc cv)]++(F++(CC.cells (oc)++Dc cs dl r0 r1 r2 ce de f0 f1 f2 ks0 ks1 ks2 dcs)))) (Hn:∀h' tk' cc' qz' qc' tz' n7,Prog (PP w) h'->Old B h h'->Has h' ((Db n6 kz m n0 w t0 sc q1 dl q2 cs q3 n3 qx kx tx qy ky ty qz' tz' qc' n7)++(F++(CC.cells (some cc')++Dc cs dl r0 r1 r2 ce de f0 f1 f2 ks0 ks1 ks2 dcs)))->codeAny (model pw w) A (qM w n0 t0 n4 n5 n6).callee R ⟨h',g,dr,tk',os⟩): codeAny (model pw w) A (qM w n0 t0 n4 n5 n6).callee R ⟨h,g,dr,tk,os⟩:=by
 have hw:=Zw (W1 w) (W2 w) w.params n0 t0 n4 n5 n6;simp only [Prod.mk.injEq] at hw;refine Xi ?_;refine Xh (k:=220) [0,1] [] [n6+1,n0+0] (TF (W1 w) (W2 w) w.params n0 t0 n4 n5 n6 h.objs.size tk n3 sc dl cs q1 q2 q3 0 0 0 0 0 0 qx qy kx ky tx ty qz qc zv cv kz ((m+1:Nat):Int) (m:Nat)).sg rfl (ob (YM (by omega) (by omega)) Xn) rmA hp H rfl rfl (Xf (lm:=[(N8 n6 kz m),(Lp n0 w t0 sc q1 dl q2 cs q3 n3 qx kx tx qy ky ty qz zv qc cv)]) [] rfl rfl) (Xg hw.1) trivial ?_;intro h1 hp1 S1 X1 _ st1;have kk:=st1.kk;have dd:=st1.dd;have rm:=st1.rm;rw [Qi] at kk dd rm;rw [Qi,JJ];have o1:Old B h h1:=Old.of X1 (all_cons (.inl (Nat.le_trans b6 (lar))) (all_cons (.inl (Nat.le_trans b0 (lar))) Xq));have T1:Has h1 ([(h.objs.size+0,v3O (kx,ky,kz) tx ty (tk+0) 0),(Es n0 w t0 sc q1 dl q2 cs q3 n3 qx kx tx qy ky ty qz kz tk qc h),(JZ n6 kz m)]++(F++(CC.cells (oc)++Dc cs dl r0 r1 r2 ce de f0 f1 f2 ks0 ks1 ks2 dcs))):=Has.re2 S1 [0,2,1] rfl;refine R5 (n7:=h.objs.size) (F:=(JZ n6 kz m)::F) (B:=B) rmA l hp1 (Nat.le_trans hB o1.size) hx0 hx1 hy0 hy1 hz0 hz1 kk dd rm T1 ?_;intro h2 tk2 cc2 hp2 o2 S2;have T2:Has h2 ([(JZ n6 kz m),(Es n0 w t0 sc q1 dl q2 cs q3 n3 qx kx tx qy ky ty qz kz tk qc h)]++(F++(CC.cells (some cc2)++Dc cs dl r0 r1 r2 ce de f0 f1 f2 ks0 ks1 ks2 dcs))):=Has.re (l:=[(Es n0 w t0 sc q1 dl q2 cs q3 n3 qx kx tx qy ky ty qz kz tk qc h),(JZ n6 kz m)]) S2 [1,0] rfl;exact Hn h2 tk2 cc2 _ _ _ _ hp2 (o1.trans o2) T2
abbrev UJ n0(w:World) t0 sc q1 dl q2 cs q3 n3 qx kx tx qy ky ty qz' zv' qc' cv':=((n0+0,frameO [kn26 w.params (t0+0) (.ref sc),kn1 w.params q1 (.ref dl),kn27 w.params q2 (.ref cs),kn28 w.params q3 (.ref (n3+1)),kn11 w.params qx (.int kx tx),kn29 w.params qy (.int ky ty),kn30 w.params qz' zv',kn2 w.params qc' cv'] 8):Xp)
theorem K4{B:Nat}{hs:Heap}{qx qy:Nat}{kx ky:Int}{tx ty:Nat}(rmA:Room 240 A)(b0:B<=n0)(b6:B<=n6)(hB:B<=hs.objs.size)(l:LW st ks0 ks1 ks2 dcs)(hx0:0<=kx)(hx1:kx<=ks0.length)(hy0:0<=ky)(hy1:ky<=ks1.length) (Hn:∀h' tk' oc' qz' qc' zv' cv',Prog (PP w) h'->Old B hs h'->Has h' ([(UJ n0 w t0 sc q1 dl q2 cs q3 n3 qx kx tx qy ky ty qz' zv' qc' cv')]++(F++(CC.cells (oc')++Dc cs dl r0 r1 r2 ce de f0 f1 f2 ks0 ks1 ks2 dcs)))->R (.ok .next) ⟨h',g,dr,tk',os⟩):
  ∀(m:Nat) (kz:Int) (h:Heap) (tk:Nat) (oc:Option CC) (qz qc:Nat) (zv cv:Value),Prog (PP w) h->Old B hs h->0<=kz->kz+m=ks2.length+1->Has h ([(n6+1,rgO kz (m:Nat)),(Lp n0 w t0 sc q1 dl q2 cs q3 n3 qx kx tx qy ky ty qz zv qc cv)]++(F++(CC.cells (oc)++Dc cs dl r0 r1 r2 ce de f0 f1 f2 ks0 ks1 ks2 dcs)))-> codeAny (model pw w) A (qM w n0 t0 n4 n5 n6).callee R ⟨h,g,dr,tk,os⟩
 | 0,kz,h,tk,oc,qz,qc,zv,cv,hp,oh,h0,hm,H=>by
  have hw:=Zw (W1 w) (W2 w) w.params n0 t0 n4 n5 n6;simp only [Prod.mk.injEq] at hw;refine Xi ?_;refine Xm (k:=240) [0] [1] [n6+1] ((qR _ ..).2.2.2.1 ..).sg rfl Xn rmA hp H rfl rfl (Xf (lm:=[(n6+1,rgO kz 0)]) [] rfl rfl) (Xg hw.1) trivial ?_;intro h1 hp1 S1 X1;exact Hn h1 _ oc qz qc zv cv hp1 (oh.trans (Old.of X1 (all_cons (.inl (Nat.le_trans b6 (lar))) Xq))) S1
 | m+1,kz,h,tk,oc,qz,qc,zv,cv,hp,oh,h0,hm,H=>by
  refine DH rmA b0 b6 (Nat.le_trans hB oh.size) l hp hx0 hx1 hy0 hy1 h0 (by omega) H ?_;intro h1 tk1 cc1 qz1 qc1 tz1 n71 hp1 o1 S1;exact K4 rmA b0 b6 hB l hx0 hx1 hy0 hy1 Hn m (kz+1) h1 tk1 (some cc1) qz1 qc1 _ _ hp1 (oh.trans o1) (by omega) (by omega) S1
theorem AB{B:Nat}{h:Heap}{tk:Nat}{oc:Option CC}{qx qy qz qc:Nat}{kx ky:Int}{tx ty:Nat}{zv cv:Value}(rmA:Room 240 A)(b0:B<=n0)(b6:B<=n6)(hB:B<=h.objs.size)(l:LW st ks0 ks1 ks2 dcs)(hp:Prog (PP w) h)(hx0:0<=kx)(hx1:kx<=ks0.length)(hy0:0<=ky)(hy1:ky<=ks1.length) (H:Has h ([(n6+1,rgO 0 ((ks2.length:Int)+1)),(Lp n0 w t0 sc q1 dl q2 cs q3 n3 qx kx tx qy ky ty qz zv qc cv)]++(F++(CC.cells (oc)++Dc cs dl r0 r1 r2 ce de f0 f1 f2 ks0 ks1 ks2 dcs)))) (Hn:∀h' tk' oc' qz' qc' zv' cv',Prog (PP w) h'->Old B h h'->Has h' ([(UJ n0 w t0 sc q1 dl q2 cs q3 n3 qx kx tx qy ky ty qz' zv' qc' cv')]++(F++(CC.cells (oc')++Dc cs dl r0 r1 r2 ce de f0 f1 f2 ks0 ks1 ks2 dcs)))->R (.ok .next) ⟨h',g,dr,tk',os⟩):codeAny (model pw w) A (qM w n0 t0 n4 n5 n6).callee R ⟨h,g,dr,tk,os⟩:=
 K4 rmA b0 b6 hB l hx0 hx1 hy0 hy1 Hn (ks2.length+1) 0 h tk oc qz qc zv cv hp (Old.refl _ _) (by omega) (by omega) H
theorem AC{B:Nat}{h:Heap}{tk:Nat}{oc:Option CC}{qx qy:Nat}{kx ky:Int}{tx ty:Nat}(rmA:Room 240 A)(b0:B<=n0)(b6:B<=n6)(hB:B<=h.objs.size)(l:LW st ks0 ks1 ks2 dcs)(hp:Prog (PP w) h)(hx0:0<=kx)(hx1:kx<=ks0.length)(hy0:0<=ky)(hy1:ky<=ks1.length) (H:Has h ([(n6+1,rgO 0 ((ks2.length:Int)+1)),(UE n0 w t0 sc q1 dl q2 cs q3 n3 qx kx tx qy ky ty)]++(F++(CC.cells (oc)++Dc cs dl r0 r1 r2 ce de f0 f1 f2 ks0 ks1 ks2 dcs)))) (Hn:∀h' tk' oc' qz' qc' zv' cv',Prog (PP w) h'->Old B h h'->Has h' ([(UJ n0 w t0 sc q1 dl q2 cs q3 n3 qx kx tx qy ky ty qz' zv' qc' cv')]++(F++(CC.cells (oc')++Dc cs dl r0 r1 r2 ce de f0 f1 f2 ks0 ks1 ks2 dcs)))->R (.ok .next) ⟨h',g,dr,tk',os⟩):codeAny (model pw w) A (qM w n0 t0 n4 n5 n6).callee R ⟨h,g,dr,tk,os⟩:=by
 refine DI (m:=ks2.length) rmA b0 b6 hB l hp hx0 hx1 hy0 hy1 (by omega) (by omega) H ?_;intro h1 tk1 cc1 qz1 qc1 tz1 n71 hp1 o1 S1;exact K4 rmA b0 b6 hB l hx0 hx1 hy0 hy1 Hn ks2.length (0+1) h1 tk1 (some cc1) qz1 qc1 _ _ hp1 o1 (by omega) (by lia) S1
abbrev Jk n3(ks0:List CKc) u0(ks1:List CKc) u1(ks2:List CKc) u2:=((n3+1,listO [.int (ks0.length:Int) u0,.int (ks1.length:Int) u1,.int (ks2.length:Int) u2] 3):Xp)
abbrev Eo n0(w:World) t0 sc q1 dl q2 cs q3 n3 qx kx tx tk ky:=((n0+0,frameO [kn26 w.params (t0+0) (.ref sc),kn1 w.params q1 (.ref dl),kn27 w.params q2 (.ref cs),kn28 w.params q3 (.ref (n3+1)),kn11 w.params qx (.int kx tx),kn29 w.params (tk+1) (.int ky (tk+0))] 6):Xp)
abbrev Jo n5 ky m:=((n5+1,rgO (ky+1) (m:Nat)):Xp)
abbrev yH(w:World) n0 t0 n4 n5:=(lawRX (W1 w) (W2 w) w.params n0 t0 n4 n5)
theorem DK{B:Nat}{h:Heap}{tk:Nat}{oc:Option CC}{qx:Nat}{kx ky:Int}{tx m:Nat}(rmA:Room 260 A)(b0:B<=n0)(b5:B<=n5)(hB:B<=h.objs.size)(l:LW st ks0 ks1 ks2 dcs)(hp:Prog (PP w) h)(hx0:0<=kx)(hx1:kx<=ks0.length)(hy0:0<=ky)(hy1:ky<=ks1.length) (H:Has h ([(n5+1,rgO ky ((m+1:Nat):Int)),(Jk n3 ks0 u0 ks1 u1 ks2 u2),(n0+0,frameO [kn26 w.params (t0+0) (.ref sc),kn1 w.params q1 (.ref dl),kn27 w.params q2 (.ref cs),kn28 w.params q3 (.ref (n3+1)),kn11 w.params qx (.int kx tx)] 5)]++(F++(CC.cells (oc)++Dc cs dl r0 r1 r2 ce de f0 f1 f2 ks0 ks1 ks2 dcs)))) (Hn:∀h' tk' oc' qy' ty' qz' qc' zv' cv',Prog (PP w) h'->Old B h h'->Has h' ([(Jo n5 ky m),(Jk n3 ks0 u0 ks1 u1 ks2 u2),(n0+0,frameO [kn26 w.params (t0+0) (.ref sc),kn1 w.params q1 (.ref dl),kn27 w.params q2 (.ref cs),kn28 w.params q3 (.ref (n3+1)),kn11 w.params qx (.int kx tx),kn29 w.params qy' (.int ky ty'),kn30 w.params qz' zv',kn2 w.params qc' cv'] 8)]++(F++(CC.cells (oc')++Dc cs dl r0 r1 r2 ce de f0 f1 f2 ks0 ks1 ks2 dcs)))->codeAny (model pw w) A (yH w n0 t0 n4 n5).callee R ⟨h',g,dr,tk',os⟩): codeAny (model pw w) A (yH w n0 t0 n4 n5).callee R ⟨h,g,dr,tk,os⟩:=by
 have hw:=Jt (W1 w) (W2 w) w.params n0 t0 n4 n5;simp only [Prod.mk.injEq] at hw;have l2:=l.l2;refine Xi ?_;refine Xh (k:=240) [0,1,2] [] [n5+1,n0+0] (FT (W1 w) (W2 w) w.params n0 t0 n4 n5 h.objs.size tk n3 sc dl cs q1 q2 q3 (ks0.length:Int) (ks1.length:Int) (ks2.length:Int) u0 u1 u2 qx (.int kx tx) ky ((m+1:Nat):Int) (m:Nat)).toSeg rfl (ob (JF (by omega) (by omega)) (ob XH (ob (YM (by omega) (by omega)) Xn))) rmA hp H rfl rfl (fun p hp=>?_) (Xg hw.1) trivial ?_
 ·rcases List.mem_cons.mp hp with rfl | hp
  ·exact .inl (.head _)
  rcases List.mem_cons.mp hp with rfl | hp
  ·exact .inr (.tail _ (.tail _ (.head _)))
  rw [List.mem_singleton.mp hp];exact .inl (.tail _ (.head _))
 intro h1 hp1 S1 X1 _ st1;have kk:=st1.kk;have dd:=st1.dd;have rm:=st1.rm;rw [Ql] at kk dd rm;rw [Ql];have o1:Old B h h1:=Old.of X1 (all_cons (.inl (Nat.le_trans b5 (lar))) (all_cons (.inl (Nat.le_trans b0 (lar))) Xq));have T1:Has h1 ([(h.objs.size+1,rgO 0 ((ks2.length:Int)+1)),(Eo n0 w t0 sc q1 dl q2 cs q3 n3 qx kx tx tk ky)]++(((Jo n5 ky m)::(Jk n3 ks0 u0 ks1 u1 ks2 u2)::F)++(CC.cells (oc)++Dc cs dl r0 r1 r2 ce de f0 f1 f2 ks0 ks1 ks2 dcs))):=Has.re (l:=[(h.objs.size+1,rgO 0 ((ks2.length:Int)+1)),(Jo n5 ky m),(Jk n3 ks0 u0 ks1 u1 ks2 u2),(Eo n0 w t0 sc q1 dl q2 cs q3 n3 qx kx tx tk ky)]) (l':=[(h.objs.size+1,rgO 0 ((ks2.length:Int)+1)),(Eo n0 w t0 sc q1 dl q2 cs q3 n3 qx kx tx tk ky),(Jo n5 ky m),(Jk n3 ks0 u0 ks1 u1 ks2 u2)]) (E:=(F++(CC.cells (oc)++Dc cs dl r0 r1 r2 ce de f0 f1 f2 ks0 ks1 ks2 dcs))) S1 [0,3,1,2] rfl;refine AC rm b0 hB (Nat.le_trans hB o1.size) l hp1 hx0 hx1 hy0 hy1 T1 ?_;intro h2 tk2 oc2 qz2 qc2 zv2 cv2 hp2 o2 S2;refine Xy (L:=[(n0+0,frameO [kn26 w.params (t0+0) (.ref sc),kn1 w.params q1 (.ref dl),kn27 w.params q2 (.ref cs),kn28 w.params q3 (.ref (n3+1)),kn11 w.params qx (.int kx tx),kn29 w.params (tk+1) (.int ky (tk+0)),kn30 w.params qz2 zv2,kn2 w.params qc2 cv2] 8),(Jo n5 ky m),(Jk n3 ks0 u0 ks1 u1 ks2 u2)]) [] [1,2,0] [] ((qR _ ..).2.2.2.2 ..).sg rfl Xn (by rw [Xk];exact hw.2) rmA hp2 S2 rfl rfl JH dd kk ?_;intro h3 hp3 S3 X3;rw [Xt];exact Hn h3 _ oc2 _ _ _ _ _ _ hp3 (o1.trans (o2.trans (Old.of X3 Xq))) S3
abbrev Eq n0(w:World) t0 sc q1 dl q2 cs q3 n3 qx kx tx qy ky tk qz zv qc cv:=((n0+0,frameO [kn26 w.params (t0+0) (.ref sc),kn1 w.params q1 (.ref dl),kn27 w.params q2 (.ref cs),kn28 w.params q3 (.ref (n3+1)),kn11 w.params qx (.int kx tx),kn29 w.params qy (.int ky (tk+0)),kn30 w.params qz zv,kn2 w.params qc cv] 8):Xp)
abbrev UI n0(w:World) t0 sc q1 dl q2 cs q3 n3 qx kx tx qy yv qz zv qc cv:=((n0+0,frameO [kn26 w.params (t0+0) (.ref sc),kn1 w.params q1 (.ref dl),kn27 w.params q2 (.ref cs),kn28 w.params q3 (.ref (n3+1)),kn11 w.params qx (.int kx tx),kn29 w.params qy yv,kn30 w.params qz zv,kn2 w.params qc cv] 8):Xp)
theorem DJ{B:Nat}{h:Heap}{tk:Nat}{oc:Option CC}{qx:Nat}{kx ky:Int}{tx m:Nat}{yv zv cv:Value}{qy qz qc:Nat}(rmA:Room 260 A)(b0:B<=n0)(b5:B<=n5)(hB:B<=h.objs.size)(l:LW st ks0 ks1 ks2 dcs)(hp:Prog (PP w) h)(hx0:0<=kx)(hx1:kx<=ks0.length)(hy0:0<=ky)(hy1:ky<=ks1.length) (H:Has h ([(n5+1,rgO ky ((m+1:Nat):Int)),(Jk n3 ks0 u0 ks1 u1 ks2 u2),(UI n0 w t0 sc q1 dl q2 cs q3 n3 qx kx tx qy yv qz zv qc cv)]++(F++(CC.cells (oc)++Dc cs dl r0 r1 r2 ce de f0 f1 f2 ks0 ks1 ks2 dcs)))) (Hn:∀h' tk' oc' qy' ty' qz' qc' zv' cv',Prog (PP w) h'->Old B h h'->Has h' ([(Jo n5 ky m),(Jk n3 ks0 u0 ks1 u1 ks2 u2),(n0+0,frameO [kn26 w.params (t0+0) (.ref sc),kn1 w.params q1 (.ref dl),kn27 w.params q2 (.ref cs),kn28 w.params q3 (.ref (n3+1)),kn11 w.params qx (.int kx tx),kn29 w.params qy' (.int ky ty'),kn30 w.params qz' zv',kn2 w.params qc' cv'] 8)]++(F++(CC.cells (oc')++Dc cs dl r0 r1 r2 ce de f0 f1 f2 ks0 ks1 ks2 dcs)))->codeAny (model pw w) A (yH w n0 t0 n4 n5).callee R ⟨h',g,dr,tk',os⟩): codeAny (model pw w) A (yH w n0 t0 n4 n5).callee R ⟨h,g,dr,tk,os⟩:=by
 have hw:=Jt (W1 w) (W2 w) w.params n0 t0 n4 n5;simp only [Prod.mk.injEq] at hw;have l2:=l.l2;refine Xi ?_;refine Xh (k:=240) [0,1,2] [] [n5+1,n0+0] (TM (W1 w) (W2 w) w.params n0 t0 n4 n5 h.objs.size tk n3 sc dl cs q1 q2 q3 (ks0.length:Int) (ks1.length:Int) (ks2.length:Int) u0 u1 u2 qx qy qz qc (.int kx tx) yv zv cv ky ((m+1:Nat):Int) (m:Nat)).toSeg rfl (ob (JF (by omega) (by omega)) (ob XH (ob (YM (by omega) (by omega)) Xn))) rmA hp H rfl rfl (fun p hp=>?_) (Xg hw.1) trivial ?_
 ·rcases List.mem_cons.mp hp with rfl | hp
  ·exact .inl (.head _)
  rcases List.mem_cons.mp hp with rfl | hp
  ·exact .inr (.tail _ (.tail _ (.head _)))
  rw [List.mem_singleton.mp hp];exact .inl (.tail _ (.head _))
 intro h1 hp1 S1 X1 _ st1;have kk:=st1.kk;have dd:=st1.dd;have rm:=st1.rm;rw [Qk] at kk dd rm;rw [Qk];have o1:Old B h h1:=Old.of X1 (all_cons (.inl (Nat.le_trans b5 (lar))) (all_cons (.inl (Nat.le_trans b0 (lar))) Xq));have T1:Has h1 ([(h.objs.size+1,rgO 0 ((ks2.length:Int)+1)),(Eq n0 w t0 sc q1 dl q2 cs q3 n3 qx kx tx qy ky tk qz zv qc cv)]++(((Jo n5 ky m)::(Jk n3 ks0 u0 ks1 u1 ks2 u2)::F)++(CC.cells (oc)++Dc cs dl r0 r1 r2 ce de f0 f1 f2 ks0 ks1 ks2 dcs))):=Has.re (l:=[(h.objs.size+1,rgO 0 ((ks2.length:Int)+1)),(Jo n5 ky m),(Jk n3 ks0 u0 ks1 u1 ks2 u2),(Eq n0 w t0 sc q1 dl q2 cs q3 n3 qx kx tx qy ky tk qz zv qc cv)]) (l':=[(h.objs.size+1,rgO 0 ((ks2.length:Int)+1)),(Eq n0 w t0 sc q1 dl q2 cs q3 n3 qx kx tx qy ky tk qz zv qc cv),(Jo n5 ky m),(Jk n3 ks0 u0 ks1 u1 ks2 u2)]) (E:=(F++(CC.cells (oc)++Dc cs dl r0 r1 r2 ce de f0 f1 f2 ks0 ks1 ks2 dcs))) S1 [0,3,1,2] rfl;refine AB rm b0 hB (Nat.le_trans hB o1.size) l hp1 hx0 hx1 hy0 hy1 T1 ?_;intro h2 tk2 oc2 qz2 qc2 zv2 cv2 hp2 o2 S2;refine Xy (L:=[(n0+0,frameO [kn26 w.params (t0+0) (.ref sc),kn1 w.params q1 (.ref dl),kn27 w.params q2 (.ref cs),kn28 w.params q3 (.ref (n3+1)),kn11 w.params qx (.int kx tx),kn29 w.params qy (.int ky (tk+0)),kn30 w.params qz2 zv2,kn2 w.params qc2 cv2] 8),(Jo n5 ky m),(Jk n3 ks0 u0 ks1 u1 ks2 u2)]) [] [1,2,0] [] ((qR _ ..).2.2.2.2 ..).sg rfl Xn (by rw [Xk];exact hw.2) rmA hp2 S2 rfl rfl JH dd kk ?_;intro h3 hp3 S3 X3;rw [Xt];exact Hn h3 _ oc2 _ _ _ _ _ _ hp3 (o1.trans (o2.trans (Old.of X3 Xq))) S3
abbrev UG n0(w:World) t0 sc q1 dl q2 cs q3 n3 qx kx tx qy' yv' qz' zv' qc' cv':=((n0+0,frameO [kn26 w.params (t0+0) (.ref sc),kn1 w.params q1 (.ref dl),kn27 w.params q2 (.ref cs),kn28 w.params q3 (.ref (n3+1)),kn11 w.params qx (.int kx tx),kn29 w.params qy' yv',kn30 w.params qz' zv',kn2 w.params qc' cv'] 8):Xp)
theorem K5{B:Nat}{hs:Heap}{qx:Nat}{kx:Int}{tx:Nat}(rmA:Room 260 A)(b0:B<=n0)(b5:B<=n5)(hB:B<=hs.objs.size)(l:LW st ks0 ks1 ks2 dcs)(hx0:0<=kx)(hx1:kx<=ks0.length) (Hn:∀h' tk' oc' qy' qz' qc' yv' zv' cv',Prog (PP w) h'->Old B hs h'->Has h' ([(Jk n3 ks0 u0 ks1 u1 ks2 u2),(UG n0 w t0 sc q1 dl q2 cs q3 n3 qx kx tx qy' yv' qz' zv' qc' cv')]++(F++(CC.cells (oc')++Dc cs dl r0 r1 r2 ce de f0 f1 f2 ks0 ks1 ks2 dcs)))->R (.ok .next) ⟨h',g,dr,tk',os⟩):
  ∀(m:Nat) (ky:Int) (h:Heap) (tk:Nat) (oc:Option CC) (qy qz qc:Nat) (yv zv cv:Value),Prog (PP w) h->Old B hs h->0<=ky->ky+m=ks1.length+1->Has h ([(n5+1,rgO ky (m:Nat)),(Jk n3 ks0 u0 ks1 u1 ks2 u2),(UI n0 w t0 sc q1 dl q2 cs q3 n3 qx kx tx qy yv qz zv qc cv)]++(F++(CC.cells (oc)++Dc cs dl r0 r1 r2 ce de f0 f1 f2 ks0 ks1 ks2 dcs)))-> codeAny (model pw w) A (yH w n0 t0 n4 n5).callee R ⟨h,g,dr,tk,os⟩
 | 0,ky,h,tk,oc,qy,qz,qc,yv,zv,cv,hp,oh,h0,hm,H=>by
  have hw:=Jt (W1 w) (W2 w) w.params n0 t0 n4 n5;simp only [Prod.mk.injEq] at hw;refine Xi ?_;refine Xm (k:=260) [0] [1,2] [n5+1] ((qS _ ..).2.2.2.1 ..).sg rfl Xn rmA hp H rfl rfl (Xf (lm:=[(n5+1,rgO ky 0)]) [] rfl rfl) (Xg hw.1) trivial ?_;intro h1 hp1 S1 X1;exact Hn h1 _ oc qy qz qc yv zv cv hp1 (oh.trans (Old.of X1 (all_cons (.inl (Nat.le_trans b5 (lar))) Xq))) S1
 | m+1,ky,h,tk,oc,qy,qz,qc,yv,zv,cv,hp,oh,h0,hm,H=>by
  refine DJ rmA b0 b5 (Nat.le_trans hB oh.size) l hp hx0 hx1 h0 (by omega) H ?_;intro h1 tk1 oc1 qy1 ty1 qz1 qc1 zv1 cv1 hp1 o1 S1;exact K5 rmA b0 b5 hB l hx0 hx1 Hn m (ky+1) h1 tk1 oc1 qy1 qz1 qc1 _ zv1 cv1 hp1 (oh.trans o1) (by omega) (by omega) S1
theorem AE{B:Nat}{h:Heap}{tk:Nat}{oc:Option CC}{qx qy qz qc:Nat}{kx:Int}{tx:Nat}{yv zv cv:Value}(rmA:Room 260 A)(b0:B<=n0)(b5:B<=n5)(hB:B<=h.objs.size)(l:LW st ks0 ks1 ks2 dcs)(hp:Prog (PP w) h)(hx0:0<=kx)(hx1:kx<=ks0.length) (H:Has h ([(n5+1,rgO 0 ((ks1.length:Int)+1)),(Jk n3 ks0 u0 ks1 u1 ks2 u2),(UI n0 w t0 sc q1 dl q2 cs q3 n3 qx kx tx qy yv qz zv qc cv)]++(F++(CC.cells (oc)++Dc cs dl r0 r1 r2 ce de f0 f1 f2 ks0 ks1 ks2 dcs)))) (Hn:∀h' tk' oc' qy' qz' qc' yv' zv' cv',Prog (PP w) h'->Old B h h'->Has h' ([(Jk n3 ks0 u0 ks1 u1 ks2 u2),(UG n0 w t0 sc q1 dl q2 cs q3 n3 qx kx tx qy' yv' qz' zv' qc' cv')]++(F++(CC.cells (oc')++Dc cs dl r0 r1 r2 ce de f0 f1 f2 ks0 ks1 ks2 dcs)))->R (.ok .next) ⟨h',g,dr,tk',os⟩):codeAny (model pw w) A (yH w n0 t0 n4 n5).callee R ⟨h,g,dr,tk,os⟩:=
 K5 rmA b0 b5 hB l hx0 hx1 Hn (ks1.length+1) 0 h tk oc qy qz qc yv zv cv hp (Old.refl _ _) (by omega) (by omega) H
theorem AF{B:Nat}{h:Heap}{tk:Nat}{oc:Option CC}{qx:Nat}{kx:Int}{tx:Nat}(rmA:Room 260 A)(b0:B<=n0)(b5:B<=n5)(hB:B<=h.objs.size)(l:LW st ks0 ks1 ks2 dcs)(hp:Prog (PP w) h)(hx0:0<=kx)(hx1:kx<=ks0.length) (H:Has h ([(n5+1,rgO 0 ((ks1.length:Int)+1)),(Jk n3 ks0 u0 ks1 u1 ks2 u2),(n0+0,frameO [kn26 w.params (t0+0) (.ref sc),kn1 w.params q1 (.ref dl),kn27 w.params q2 (.ref cs),kn28 w.params q3 (.ref (n3+1)),kn11 w.params qx (.int kx tx)] 5)]++(F++(CC.cells (oc)++Dc cs dl r0 r1 r2 ce de f0 f1 f2 ks0 ks1 ks2 dcs)))) (Hn:∀h' tk' oc' qy' qz' qc' yv' zv' cv',Prog (PP w) h'->Old B h h'->Has h' ([(Jk n3 ks0 u0 ks1 u1 ks2 u2),(UG n0 w t0 sc q1 dl q2 cs q3 n3 qx kx tx qy' yv' qz' zv' qc' cv')]++(F++(CC.cells (oc')++Dc cs dl r0 r1 r2 ce de f0 f1 f2 ks0 ks1 ks2 dcs)))->R (.ok .next) ⟨h',g,dr,tk',os⟩):codeAny (model pw w) A (yH w n0 t0 n4 n5).callee R ⟨h,g,dr,tk,os⟩:=by
 refine DK (m:=ks1.length) rmA b0 b5 hB l hp hx0 hx1 (by omega) (by omega) H ?_;intro h1 tk1 oc1 qy1 ty1 qz1 qc1 zv1 cv1 hp1 o1 S1;exact K5 rmA b0 b5 hB l hx0 hx1 Hn ks1.length (0+1) h1 tk1 oc1 qy1 qz1 qc1 _ zv1 cv1 hp1 o1 (by omega) (by lia) S1
abbrev UF n0(w:World) t0 sc q1 dl q2 cs q3 n3 tk kx:=((n0+0,frameO [kn26 w.params (t0+0) (.ref sc),kn1 w.params q1 (.ref dl),kn27 w.params q2 (.ref cs),kn28 w.params q3 (.ref (n3+1)),kn11 w.params (tk+1) (.int kx (tk+0))] 5):Xp)
abbrev Jn n4 kx m:=((n4+1,rgO (kx+1) (m:Nat)):Xp)
theorem DM{B:Nat}{h:Heap}{tk:Nat}{oc:Option CC}{kx:Int}{m:Nat}(rmA:Room 280 A)(b0:B<=n0)(b4:B<=n4)(hB:B<=h.objs.size)(l:LW st ks0 ks1 ks2 dcs)(hp:Prog (PP w) h)(hx0:0<=kx)(hx1:kx<=ks0.length) (H:Has h ([(n4+1,rgO kx ((m+1:Nat):Int)),(Jk n3 ks0 u0 ks1 u1 ks2 u2),(n0+0,frameO [kn26 w.params (t0+0) (.ref sc),kn1 w.params q1 (.ref dl),kn27 w.params q2 (.ref cs),kn28 w.params q3 (.ref (n3+1))] 4)]++(F++(CC.cells (oc)++Dc cs dl r0 r1 r2 ce de f0 f1 f2 ks0 ks1 ks2 dcs)))) (Hn:∀h' tk' oc' qx' tx' qy' qz' qc' yv' zv' cv',Prog (PP w) h'->Old B h h'->Has h' ([(Jn n4 kx m),(Jk n3 ks0 u0 ks1 u1 ks2 u2),(n0+0,frameO [kn26 w.params (t0+0) (.ref sc),kn1 w.params q1 (.ref dl),kn27 w.params q2 (.ref cs),kn28 w.params q3 (.ref (n3+1)),kn11 w.params qx' (.int kx tx'),kn29 w.params qy' yv',kn30 w.params qz' zv',kn2 w.params qc' cv'] 8)]++(F++(CC.cells (oc')++Dc cs dl r0 r1 r2 ce de f0 f1 f2 ks0 ks1 ks2 dcs)))->codeAny (model pw w) A (YR (W1 w) (W2 w) w.params n0 t0 n4) R ⟨h',g,dr,tk',os⟩): codeAny (model pw w) A (YR (W1 w) (W2 w) w.params n0 t0 n4) R ⟨h,g,dr,tk,os⟩:=by
 have hw:=Ju (W1 w) (W2 w) w.params n0 t0 n4;simp only [Prod.mk.injEq] at hw;have l1:=l.l1;refine Xi ?_;refine Xh (k:=260) [0,1,2] [] [n4+1,n0+0] (FU (W1 w) (W2 w) w.params n0 t0 n4 h.objs.size tk n3 sc dl cs q1 q2 q3 (ks0.length:Int) (ks1.length:Int) (ks2.length:Int) u0 u1 u2 kx ((m+1:Nat):Int) (m:Nat)).toSeg rfl (ob (JF (by omega) (by omega)) (ob XH (ob (YM (by omega) (by omega)) Xn))) rmA hp H rfl rfl (fun p hp=>?_) (Xg hw.1) trivial ?_
 ·rcases List.mem_cons.mp hp with rfl | hp
  ·exact .inl (.head _)
  rcases List.mem_cons.mp hp with rfl | hp
  ·exact .inr (.tail _ (.tail _ (.head _)))
  rw [List.mem_singleton.mp hp];exact .inl (.tail _ (.head _))
 intro h1 hp1 S1 X1 _ st1;have kk:=st1.kk;have dd:=st1.dd;have rm:=st1.rm;rw [Qn] at kk dd rm;rw [Qn];have o1:Old B h h1:=Old.of X1 (all_cons (.inl (Nat.le_trans b4 (lar))) (all_cons (.inl (Nat.le_trans b0 (lar))) Xq));have T1:Has h1 ([(h.objs.size+1,rgO 0 ((ks1.length:Int)+1)),(Jk n3 ks0 u0 ks1 u1 ks2 u2),(UF n0 w t0 sc q1 dl q2 cs q3 n3 tk kx)]++(((Jn n4 kx m)::F)++(CC.cells (oc)++Dc cs dl r0 r1 r2 ce de f0 f1 f2 ks0 ks1 ks2 dcs))):=Has.re (l:=[(h.objs.size+1,rgO 0 ((ks1.length:Int)+1)),(Jn n4 kx m),(Jk n3 ks0 u0 ks1 u1 ks2 u2),(UF n0 w t0 sc q1 dl q2 cs q3 n3 tk kx)]) (l':=[(h.objs.size+1,rgO 0 ((ks1.length:Int)+1)),(Jk n3 ks0 u0 ks1 u1 ks2 u2),(UF n0 w t0 sc q1 dl q2 cs q3 n3 tk kx),(Jn n4 kx m)]) (E:=(F++(CC.cells (oc)++Dc cs dl r0 r1 r2 ce de f0 f1 f2 ks0 ks1 ks2 dcs))) S1 [0,2,3,1] rfl;refine AF rm b0 hB (Nat.le_trans hB o1.size) l hp1 hx0 hx1 T1 ?_;intro h2 tk2 oc2 qy2 qz2 qc2 yv2 zv2 cv2 hp2 o2 S2;refine Xy (L:=[(Jk n3 ks0 u0 ks1 u1 ks2 u2),(n0+0,frameO [kn26 w.params (t0+0) (.ref sc),kn1 w.params q1 (.ref dl),kn27 w.params q2 (.ref cs),kn28 w.params q3 (.ref (n3+1)),kn11 w.params (tk+1) (.int kx (tk+0)),kn29 w.params qy2 yv2,kn30 w.params qz2 zv2,kn2 w.params qc2 cv2] 8),(Jn n4 kx m)]) [] [2,0,1] [] ((qS _ ..).2.2.2.2 ..).sg rfl Xn (by rw [Xk];exact hw.2) rmA hp2 S2 rfl rfl JH dd kk ?_;intro h3 hp3 S3 X3;rw [Xt];exact Hn h3 _ oc2 _ _ _ _ _ _ _ _ hp3 (o1.trans (o2.trans (Old.of X3 Xq))) S3
abbrev Ep n0(w:World) t0 sc q1 dl q2 cs q3 n3 qx kx tk qy yv qz zv qc cv:=((n0+0,frameO [kn26 w.params (t0+0) (.ref sc),kn1 w.params q1 (.ref dl),kn27 w.params q2 (.ref cs),kn28 w.params q3 (.ref (n3+1)),kn11 w.params qx (.int kx (tk+0)),kn29 w.params qy yv,kn30 w.params qz zv,kn2 w.params qc cv] 8):Xp)
abbrev ST n0(w:World) t0 sc q1 dl q2 cs q3 n3 qx xv qy yv qz zv qc cv:=((n0+0,frameO [kn26 w.params (t0+0) (.ref sc),kn1 w.params q1 (.ref dl),kn27 w.params q2 (.ref cs),kn28 w.params q3 (.ref (n3+1)),kn11 w.params qx xv,kn29 w.params qy yv,kn30 w.params qz zv,kn2 w.params qc cv] 8):Xp)
theorem DL{B:Nat}{h:Heap}{tk:Nat}{oc:Option CC}{kx:Int}{m:Nat}{xv yv zv cv:Value}{qx qy qz qc:Nat}(rmA:Room 280 A)(b0:B<=n0)(b4:B<=n4)(hB:B<=h.objs.size)(l:LW st ks0 ks1 ks2 dcs)(hp:Prog (PP w) h)(hx0:0<=kx)(hx1:kx<=ks0.length) (H:Has h ([(n4+1,rgO kx ((m+1:Nat):Int)),(Jk n3 ks0 u0 ks1 u1 ks2 u2),(ST n0 w t0 sc q1 dl q2 cs q3 n3 qx xv qy yv qz zv qc cv)]++(F++(CC.cells (oc)++Dc cs dl r0 r1 r2 ce de f0 f1 f2 ks0 ks1 ks2 dcs)))) (Hn:∀h' tk' oc' qx' tx' qy' qz' qc' yv' zv' cv',Prog (PP w) h'->Old B h h'->Has h' ([(Jn n4 kx m),(Jk n3 ks0 u0 ks1 u1 ks2 u2),(n0+0,frameO [kn26 w.params (t0+0) (.ref sc),kn1 w.params q1 (.ref dl),kn27 w.params q2 (.ref cs),kn28 w.params q3 (.ref (n3+1)),kn11 w.params qx' (.int kx tx'),kn29 w.params qy' yv',kn30 w.params qz' zv',kn2 w.params qc' cv'] 8)]++(F++(CC.cells (oc')++Dc cs dl r0 r1 r2 ce de f0 f1 f2 ks0 ks1 ks2 dcs)))->codeAny (model pw w) A (YR (W1 w) (W2 w) w.params n0 t0 n4) R ⟨h',g,dr,tk',os⟩): codeAny (model pw w) A (YR (W1 w) (W2 w) w.params n0 t0 n4) R ⟨h,g,dr,tk,os⟩:=by
 have hw:=Ju (W1 w) (W2 w) w.params n0 t0 n4;simp only [Prod.mk.injEq] at hw;have l1:=l.l1;refine Xi ?_;refine Xh (k:=260) [0,1,2] [] [n4+1,n0+0] (TN (W1 w) (W2 w) w.params n0 t0 n4 h.objs.size tk n3 sc dl cs q1 q2 q3 (ks0.length:Int) (ks1.length:Int) (ks2.length:Int) u0 u1 u2 kx ((m+1:Nat):Int) (m:Nat) qx qy qz qc xv yv zv cv).toSeg rfl (ob (JF (by omega) (by omega)) (ob XH (ob (YM (by omega) (by omega)) Xn))) rmA hp H rfl rfl (fun p hp=>?_) (Xg hw.1) trivial ?_
 ·rcases List.mem_cons.mp hp with rfl | hp
  ·exact .inl (.head _)
  rcases List.mem_cons.mp hp with rfl | hp
  ·exact .inr (.tail _ (.tail _ (.head _)))
  rw [List.mem_singleton.mp hp];exact .inl (.tail _ (.head _))
 intro h1 hp1 S1 X1 _ st1;have kk:=st1.kk;have dd:=st1.dd;have rm:=st1.rm;rw [Qm] at kk dd rm;rw [Qm];have o1:Old B h h1:=Old.of X1 (all_cons (.inl (Nat.le_trans b4 (lar))) (all_cons (.inl (Nat.le_trans b0 (lar))) Xq));have T1:Has h1 ([(h.objs.size+1,rgO 0 ((ks1.length:Int)+1)),(Jk n3 ks0 u0 ks1 u1 ks2 u2),(Ep n0 w t0 sc q1 dl q2 cs q3 n3 qx kx tk qy yv qz zv qc cv)]++(((Jn n4 kx m)::F)++(CC.cells (oc)++Dc cs dl r0 r1 r2 ce de f0 f1 f2 ks0 ks1 ks2 dcs))):=Has.re (l:=[(h.objs.size+1,rgO 0 ((ks1.length:Int)+1)),(Jn n4 kx m),(Jk n3 ks0 u0 ks1 u1 ks2 u2),(Ep n0 w t0 sc q1 dl q2 cs q3 n3 qx kx tk qy yv qz zv qc cv)]) (l':=[(h.objs.size+1,rgO 0 ((ks1.length:Int)+1)),(Jk n3 ks0 u0 ks1 u1 ks2 u2),(Ep n0 w t0 sc q1 dl q2 cs q3 n3 qx kx tk qy yv qz zv qc cv),(Jn n4 kx m)]) (E:=(F++(CC.cells (oc)++Dc cs dl r0 r1 r2 ce de f0 f1 f2 ks0 ks1 ks2 dcs))) S1 [0,2,3,1] rfl;refine AE rm b0 hB (Nat.le_trans hB o1.size) l hp1 hx0 hx1 T1 ?_;intro h2 tk2 oc2 qy2 qz2 qc2 yv2 zv2 cv2 hp2 o2 S2;refine Xy (L:=[(Jk n3 ks0 u0 ks1 u1 ks2 u2),(n0+0,frameO [kn26 w.params (t0+0) (.ref sc),kn1 w.params q1 (.ref dl),kn27 w.params q2 (.ref cs),kn28 w.params q3 (.ref (n3+1)),kn11 w.params qx (.int kx (tk+0)),kn29 w.params qy2 yv2,kn30 w.params qz2 zv2,kn2 w.params qc2 cv2] 8),(Jn n4 kx m)]) [] [2,0,1] [] ((qS _ ..).2.2.2.2 ..).sg rfl Xn (by rw [Xk];exact hw.2) rmA hp2 S2 rfl rfl JH dd kk ?_;intro h3 hp3 S3 X3;rw [Xt];exact Hn h3 _ oc2 _ _ _ _ _ _ _ _ hp3 (o1.trans (o2.trans (Old.of X3 Xq))) S3
theorem R6{B:Nat}{hs:Heap}(rmA:Room 280 A)(b0:B<=n0)(b4:B<=n4)(hB:B<=hs.objs.size)(l:LW st ks0 ks1 ks2 dcs)(Hn:∀h' tk' oc',Prog (PP w) h'->Old B hs h'->Has h' (CC.cells oc')->R (.ok .next) ⟨h',g,dr,tk',os⟩):
  ∀(m:Nat) (kx:Int) (h:Heap) (tk:Nat) (oc:Option CC) (qx qy qz qc:Nat) (xv yv zv cv:Value),Prog (PP w) h->Old B hs h->0<=kx->kx+m=ks0.length+1->Has h ([(n4+1,rgO kx (m:Nat)),(Jk n3 ks0 u0 ks1 u1 ks2 u2),(ST n0 w t0 sc q1 dl q2 cs q3 n3 qx xv qy yv qz zv qc cv)]++(F++(CC.cells (oc)++Dc cs dl r0 r1 r2 ce de f0 f1 f2 ks0 ks1 ks2 dcs)))-> codeAny (model pw w) A (YR (W1 w) (W2 w) w.params n0 t0 n4) R ⟨h,g,dr,tk,os⟩
 | 0,kx,h,tk,oc,qx,qy,qz,qc,xv,yv,zv,cv,hp,oh,h0,hm,H=>by
  have hw:=Ju (W1 w) (W2 w) w.params n0 t0 n4;simp only [Prod.mk.injEq] at hw;refine Xi ?_;refine Xm (k:=280) [0] [1,2] [n4+1] ((Qs ..).2.2.2 ..).sg rfl Xn rmA hp H rfl rfl (Xf (lm:=[(n4+1,rgO kx 0)]) [] rfl rfl) (Xg hw.1) trivial ?_;intro h1 hp1 S1 X1;exact Hn h1 _ oc hp1 (oh.trans (Old.of X1 (all_cons (.inl (Nat.le_trans b4 (lar))) Xq))) (Has.left (Has.right (l:=F) (Has.right S1)))
 | m+1,kx,h,tk,oc,qx,qy,qz,qc,xv,yv,zv,cv,hp,oh,h0,hm,H=>by
  refine DL rmA b0 b4 (Nat.le_trans hB oh.size) l hp h0 (by omega) H ?_;intro h1 tk1 oc1 qx1 tx1 qy1 qz1 qc1 yv1 zv1 cv1 hp1 o1 S1;exact R6 rmA b0 b4 hB l Hn m (kx+1) h1 tk1 oc1 qx1 qy1 qz1 qc1 _ yv1 zv1 cv1 hp1 (oh.trans o1) (by omega) (by omega) S1
theorem xall{B:Nat}{h:Heap}{tk:Nat}{oc:Option CC}(rmA:Room 280 A)(b0:B<=n0)(b4:B<=n4)(hB:B<=h.objs.size)(l:LW st ks0 ks1 ks2 dcs)(hp:Prog (PP w) h) (H:Has h ([(n4+1,rgO 0 ((ks0.length:Int)+1)),(Jk n3 ks0 u0 ks1 u1 ks2 u2),(n0+0,frameO [kn26 w.params (t0+0) (.ref sc),kn1 w.params q1 (.ref dl),kn27 w.params q2 (.ref cs),kn28 w.params q3 (.ref (n3+1))] 4)]++(F++(CC.cells (oc)++Dc cs dl r0 r1 r2 ce de f0 f1 f2 ks0 ks1 ks2 dcs)))) (Hn:∀h' tk' oc',Prog (PP w) h'->Old B h h'->Has h' (CC.cells oc')->R (.ok .next) ⟨h',g,dr,tk',os⟩):codeAny (model pw w) A (YR (W1 w) (W2 w) w.params n0 t0 n4) R ⟨h,g,dr,tk,os⟩:=by
 refine DM rmA b0 b4 hB l hp (by omega) (by omega) H ?_;intro h1 tk1 oc1 qx1 tx1 qy1 qz1 qc1 yv1 zv1 cv1 hp1 o1 S1;exact R6 rmA b0 b4 hB l Hn ks0.length (0+1) h1 tk1 oc1 qx1 qy1 qz1 qc1 _ yv1 zv1 cv1 hp1 o1 (by omega) (by lia) S1
end

theorem Run.mem{ds:List D3}{st:CS}(r:Run ds st):∀d∈ds,0<=d.1/\d.1<3/\0<=d.2.1/\d.2.1<3:=by
 induction r with
 | nil=>exact fun _ hd=>(nomatch hd)
 | snoc r ok ih=>
  intro d hd;rcases List.mem_append.mp hd with h | h
  ·exact ih d h
  ·rw [List.mem_singleton.mp h];exact ⟨ok.i0,ok.i3,ok.j0,ok.j3⟩
theorem Run.len{ds:List D3}{st:CS}(r:Run ds st){p:Nat}(hp:p<3):(st.r p).length<=ds.length:=by
 rw [←r.cnt p hp];exact List.length_filter_le _ _
theorem Bq{vs:List Value}{xs:List Int}(h:Ints vs xs)(n:Nat):Ints (vs.take n) (xs.take n):=⟨by rw [List.length_take,List.length_take,h.len],fun i y hy=>by
 rw [List.getElem?_take] at hy ⊢
 split at hy
 ·rename_i hi;rw [if_pos hi];exact h.at' i y hy
 ·cases hy⟩
theorem Br{vs:List Value}{xs:List Int}(h:Ints vs xs)(n:Nat):Ints (vs.drop n) (xs.drop n):=⟨by rw [List.length_drop,List.length_drop,h.len],fun i y hy=>by
 rw [List.getElem?_drop] at hy ⊢;exact h.at' _ y hy⟩
theorem F0{vs us:List Value}{xs ys:List Int}(h:Ints vs xs)(k:Ints us ys):Ints (vs++us) (xs++ys):=⟨by rw [List.length_append,List.length_append,h.len,k.len],fun i y hy=>by
 rw [List.getElem?_append] at hy ⊢;rw [h.len]
 split at hy
 ·rename_i hi;rw [if_pos hi];exact h.at' i y hy
 ·rename_i hi;rw [if_neg hi];exact k.at' _ y hy⟩
theorem CD{a b c d:Int}{x y z u:Nat}:Ints [.int a x,.int b y,.int c z,.int d u] [a,b,c,d]:=⟨rfl,fun i y' h=>by
 match i with
 | 0=>cases h;exact ⟨_,rfl⟩
 | 1=>cases h;exact ⟨_,rfl⟩
 | 2=>cases h;exact ⟨_,rfl⟩
 | 3=>cases h;exact ⟨_,rfl⟩
 | i+4=>cases h⟩
theorem numbers_len(xs:List Int):(xs.take 5++([0,10,12,20]:List Int).drop xs.length).length=4\/(xs.take 5++([0,10,12,20]:List Int).drop xs.length).length=5:=by
 rw [List.length_append,List.length_take,List.length_drop];show min 5 xs.length+(4 - xs.length)=4\/min 5 xs.length+(4 - xs.length)=5;omega
theorem yE(xs:List Int):(deedsF xs).length=xs.length:=by
 have:∀(ys:List Int) (s:List Int×List D3),(ys.foldl Yx s).2.length=s.2.length+ys.length:=by
  intro ys
  induction ys with
  | nil=>intro s;rfl
  | cons y ys ih=>
   intro s;rw [List.foldl_cons,ih];show (s.2++[_]).length+ys.length=_;rw [List.length_append,List.length_cons,List.length_cons,List.length_nil];lia
 have h:=this xs ([0,0,0],[]);unfold deedsF;rw [h];exact Nat.zero_add _
theorem Old.mono{B B':Nat}{h h':Heap}(o:Old B' h h')(hb:B<=B'):Old B h h':=⟨o.size,fun b x e h1 h2=>o.keep b x e (Nat.lt_of_lt_of_le h1 hb) h2⟩
theorem TD{h h1 h2 h3 h4 h5:Heap}(X1:Ext [] h h1)(X2:Ext [] h1 h2)(X3:Ext [h.objs.size+0] h2 h3)(X4:Ext [] h3 h4)(X5:Ext [] h4 h5):Old h.objs.size h h5:=by
 have o1:Old h.objs.size h h1:=Old.of X1 Xq;have o2:Old h.objs.size h1 h2:=Old.of X2 Xq;have o3:Old h.objs.size h2 h3:=Old.of X3 (all_cons (.inl (lar)) Xq);have o4:Old h.objs.size h3 h4:=Old.of X4 Xq;have o5:Old h.objs.size h4 h5:=Old.of X5 Xq;exact o1.trans (o2.trans (o3.trans (o4.trans o5)))
theorem D7{h:Heap}{X K0 K1 K2 DD Y:List (Addr×Obj)}{b:Addr×Obj}(H:Has h (X++(K0++(K1++(K2++([b]++(DD++Y))))))):Has h ((X++([b]++Y))++(K0++(K1++(K2++DD)))):=by
 refine H.perm ?_;rw [List.append_assoc];refine List.Perm.append_left X ?_;have p0:List.Perm ([b]++(DD++Y)) (([b]++Y)++DD):=by
  rw [List.append_assoc];exact List.Perm.append_left [b] List.perm_append_comm
 generalize ([b]++Y)=W at p0 ⊢;refine (List.Perm.append_left K0 (List.Perm.append_left K1 (List.Perm.append_left K2 p0))).trans ?_;refine (List.Perm.append_left K0 (List.Perm.append_left K1 (List.perm_append_comm_assoc K2 W DD))).trans ?_;exact (List.Perm.append_left K0 (List.perm_append_comm_assoc K1 W _)).trans (List.perm_append_comm_assoc K0 W _)
abbrev BC(h:Heap)(w:World) tk sc tk2 dl:=((h.objs.size+0,frameO [kn26 w.params (tk+0) (.ref sc),kn1 w.params (tk2+0) (.ref dl)] 2):Xp)
abbrev Uu(h:Heap)(w:World) tk sc:=((h.objs.size+0,frameO [kn26 w.params (tk+0) (.ref sc)] 1):Xp)
theorem TC{w:World}{A:Around}{g:Array GenState}{dr:Drawn}{os:OsState}{R:Result->Shared->Prop}{h:Heap}{tk:Nat}{sc:Addr}{vs:List Value}{xs:List Int}{e:Nat}(rm:Room 320 A)(hp:Prog (PP w) h)(hx:Ints vs xs)(hv:vs.length<=63) (H:Has h [(sc,listO vs e),(239,i239)]) (Hn:∀h' tk' oc',Prog (PP w) h'->Old h.objs.size h h'->Has h' (CC.cells oc')->R (.ok (.ret (.bool true))) ⟨h',g,dr,tk',os⟩): codeAny (model pw w) A (.call (.ref 264) ⟨[.ref sc],[]⟩) R ⟨h,g,dr,tk,os⟩:=by
 have sl:(1000:Nat)<=sizeLine:=by decide
 refine XG (Nat.le_trans (lar) rm.d) (by rw [Yd];exact Nat.zero_le _) ?_;refine Xh (k:=300) [0] [1] [] (H8 (W1 w) (W2 w) w.params h.objs.size tk sc vs e (vs.take 5) (([.int 0 (tk+2),.int 10 (tk+3),.int 12 (tk+4),.int 20 (tk+5)]:List Value).drop vs.length) (vs.take 5++([.int 0 (tk+2),.int 10 (tk+3),.int 12 (tk+4),.int 20 (tk+5)]:List Value).drop vs.length) (vs.length:Int)) rfl (ob (D8 rfl (by rw [List.length_take,List.length_drop];exact Nat.le_trans (Nat.add_le_add (Nat.min_le_left _ _) (Nat.sub_le _ _)) (Nat.le_trans (show (5+4:Nat)<=1000 by decide) sl))) (ob (Tw (Nat.le_trans (show (4:Nat)<=1000 by decide) sl)) (ob (XV rfl (by omega)) (ob (Tx (by omega)) Xn)))) rm hp (by rw [List.append_nil];exact H) rfl rfl (Xf (lm:=[]) [2] rfl rfl) (Nat.le_refl _) trivial ?_;intro h1 hp1 S1 X1 _ st1;have hz:Ints (vs.take 5++([.int 0 (tk+2),.int 10 (tk+3),.int 12 (tk+4),.int 20 (tk+5)]:List Value).drop vs.length) (xs.take 5++([0,10,12,20]:List Int).drop xs.length):=by
  rw [←hx.len];exact F0 (Bq hx 5) (Br CD vs.length)
 refine MN (st1.rm.le (by decide)) hp1 hz (numbers_len xs) (Has.re2 S1 [1] rfl) ?_;intro h2 tk2 dl de dcs hp2 X2 hdl hda hdc S2;have T2:Has h2 ((((XT dl dcs de)::dcs.map DC.cell)++[(Uu h w tk sc),(sc,listO vs e),(239,i239)])):=Has.new (Has.re2 S1 [0,2,3] rfl) X2 S2 (fun p hp=>by
  rcases List.mem_cons.mp hp with rfl | hp
  ·exact hdl
  ·obtain ⟨d,hd,rfl⟩:=List.mem_map.mp hp;exact hda d hd)
 have T2':Has h2 ([(Uu h w tk sc),(sc,listO vs e),(239,i239)]++((XT dl dcs de)::dcs.map DC.cell)):=T2.perm List.perm_append_comm;obtain ⟨st,hrun⟩:=MO (xs.take 5++([0,10,12,20]:List Int).drop xs.length);rw [←hdc] at hrun;have hlen:dcs.length=4\/dcs.length=5:=by
  have:=congrArg List.length hdc;rw [List.length_map] at this;rw [this];rcases numbers_len xs with z | z
  ·left;rw [yE];exact z
  ·right;rw [yE];exact z
 have hok:∀d∈dcs,d.Ok:=fun d hd=>by
  obtain ⟨a1,a2,a3,a4⟩:=hrun.mem d.d (List.mem_map_of_mem hd);exact ⟨a1,a2,a3,a4⟩
 refine Xh (k:=300) [0,1] [2] [h.objs.size+0] (SJ ..).1.sg rfl Xn rm hp2 T2' rfl rfl (Xf (lm:=[(Uu h w tk sc)]) [1] rfl rfl) st1.dd st1.kk ?_;intro h3 hp3 S3 X3 _ st3;refine Tg st3.rm.h hx (Has.re (l:=[(BC h w tk sc tk2 dl),(sc,listO vs e)]) (l':=[(sc,listO vs e)]) (E:=[]) (Has.left (l':=[(239,i239)]++((XT dl dcs de)::dcs.map DC.cell)) S3) [1] rfl) ?_;intro h4 tk4 sm smt X4;have hp4:Prog (PP w) h4:=hp3.ext X4 (fun _ ha=>(nomatch ha));have T4:Has h4 ([(BC h w tk sc tk2 dl),(sc,listO vs e),(239,i239)]++((XT dl dcs de)::dcs.map DC.cell)):=Has.ext S3 X4;refine Xh (k:=300) [0] [2] [] (Wj _ ..).1.sg rfl Xn rm hp4 T4 rfl rfl (Xf (lm:=[]) [0] rfl rfl) st3.dd st3.kk ?_;intro h5 hp5 S5 X5 _ st5;have T5:Has h5 ([(XT dl dcs de)]++(dcs.map DC.cell++[(BC h w tk sc tk2 dl),(239,i239)])):=S5.perm (List.perm_append_comm (l₁:=[(BC h w tk sc tk2 dl),(239,i239)]) (l₂:=(XT dl dcs de)::dcs.map DC.cell));refine GF (st5.rm.le (by decide)) hp5 hlen hok hrun.cv T5 ?_;intro h6 tk6 cs ce r0 r1 r2 f0 f1 f2 ks0 ks1 ks2 hp6 o6 g0 g1 g2 S6;rw [hrun.fold] at g0 g1 g2;have hl5:(dcs.map DC.d).length<=5:=by rw [List.length_map];lia
 have k0:ks0.length<100:=by rw [YK g0];have:=hrun.len (p:=0) (by decide);omega
 have k1:ks1.length<100:=by rw [YK g1];have:=hrun.len (p:=1) (by decide);omega
 have k2:ks2.length<100:=by rw [YK g2];have:=hrun.len (p:=2) (by decide);omega
 have lw:LW st ks0 ks1 ks2 dcs:=⟨hrun,hok,hlen,g0,g1,g2,k0,k1,k2⟩;have T6:Has h6 ([(qK cs r0 r1 r2 ce),(Zi r0 ks0 f0),(Zh r1 ks1 f1),(Zg r2 ks2 f2),(XT dl dcs de),(BC h w tk sc tk2 dl),(239,i239)]++(ks0.map CKc.cell++(ks1.map CKc.cell++(ks2.map CKc.cell++dcs.map DC.cell)))):=D7 S6;clear S6 T5 S5 T4 S3 T2' T2 S2 S1;refine Xh (k:=300) [5,0] [1,2,3,4,6] [h.objs.size+0] (NX ..).toSeg rfl Xn rm hp6 T6 rfl rfl (Xf (lm:=[(BC h w tk sc tk2 dl)]) [4] rfl rfl) st5.dd st5.kk ?_;intro h7 hp7 S7 X7 _ st7;have hw:=(NX (W1 w) (W2 w) w.params h.objs.size tk h2.objs.size tk2 h4.objs.size tk4 h6.objs.size tk6 sc vs e (vs.take 5) (([.int 0 (tk+2),.int 10 (tk+3),.int 12 (tk+4),.int 20 (tk+5)]:List Value).drop vs.length) (vs.take 5++([.int 0 (tk+2),.int 10 (tk+3),.int 12 (tk+4),.int 20 (tk+5)]:List Value).drop vs.length) (vs.length:Int) dl sm smt (tk2+0) cs r0 r1 r2 ce).wq;simp only [Prod.mk.injEq] at hw;refine Xi ?_;refine Xm (k:=300) (L:=[(h6.objs.size+2,dctO [] 0),(h6.objs.size+1,listO [] 0),(h6.objs.size+0,itO cs 0),(h.objs.size+0,frameO [kn26 w.params (tk+0) (.ref sc),kn1 w.params (tk2+0) (.ref dl),kn27 w.params (tk6+0) (.ref cs)] 3),(qK cs r0 r1 r2 ce),(Zi r0 ks0 f0),(Zh r1 ks1 f1),(Zg r2 ks2 f2),(XT dl dcs de),(239,i239)]) [0,1,2,4,5,6,7] [3,8,9] [h6.objs.size+2,h6.objs.size+1,h6.objs.size+0] (((Wj _ ..).2 ..).1 ..).sg rfl (ob (XV (List.length_map ..) (by omega)) (ob (XV (List.length_map ..) (by omega)) (ob (XV (List.length_map ..) (by omega)) Xn))) st7.rm hp7 S7 rfl rfl (Xf (lm:=[(h6.objs.size+2,dctO [] 0),(h6.objs.size+1,listO [] 0),(h6.objs.size+0,itO cs 0)]) [2,3,4,5] rfl rfl) (Xg hw.1) trivial ?_;intro h9 hp9 S9 X9;refine Xh (k:=280) (L:=[(h6.objs.size+2,dctO [kn21 w.params ((tk6+1)+0) (.ref r2)] 1),(h6.objs.size+1,listO [.int (ks0.length:Int) ((tk6+1)+1+1),.int (ks1.length:Int) ((tk6+1)+4+1),.int (ks2.length:Int) ((tk6+1)+7+1)] 3),(qK cs r0 r1 r2 ce),(Zi r0 ks0 f0),(Zh r1 ks1 f1),(Zg r2 ks2 f2),(h.objs.size+0,frameO [kn26 w.params (tk+0) (.ref sc),kn1 w.params (tk2+0) (.ref dl),kn27 w.params (tk6+0) (.ref cs)] 3),(XT dl dcs de),(239,i239)]) [0,1,6] [2,3,4,5,7,8] [h.objs.size+0,h6.objs.size+2] (NW ..).toSeg rfl (ob (JF (by omega) (by omega)) (ob XH Xn)) rm hp9 S9 rfl rfl (fun p hp=>?_) st7.dd st7.kk ?_
 ·rcases List.mem_cons.mp hp with rfl | hp
  ·exact .inl (.tail _ (.head _))
  rcases List.mem_cons.mp hp with rfl | hp
  ·exact .inr (.tail _ (.tail _ (.head _)))
  rw [List.mem_singleton.mp hp];exact .inl (.head _)
 intro h10 hp10 S10 X10 _ st10;have T10:=Has.re2 S10 [0,2,1,8,3,7,4,5,6] rfl;have q5:Old h.objs.size h h5:=TD X1 X2 X3 X4 X5;have q6:Old h.objs.size h h6:=q5.trans (o6.mono q5.size);have q7:Old h.objs.size h6 h7:=Old.of X7 (all_cons (.inl (lar)) Xq);have q9:Old h.objs.size h7 h9:=Old.of X9 (all_cons (.inl (Nat.le_trans q6.size (lar))) (all_cons (.inl (Nat.le_trans q6.size (lar))) (all_cons (.inl (Nat.le_trans q6.size (lar))) Xq)));have q10:Old h.objs.size h9 h10:=Old.of X10 (all_cons (.inl (lar)) (all_cons (.inl (Nat.le_trans q6.size (lar))) Xq));have r9:Old h.objs.size h h9:=q6.trans (q7.trans q9);have r10:Old h.objs.size h h10:=r9.trans q10;refine xall (B:=h.objs.size) (n4:=h9.objs.size) (F:=[]) (oc:=none) (n3:=h6.objs.size) st10.rm (Nat.le_refl _) r9.size r10.size lw hp10 T10 ?_;intro h11 tk11 oc hp11 o11 S11;refine Xm (k:=320) (L:=[]) [] [] [] (((Wj _ ..).2 ..).2 ..).sg rfl Xn rm hp11 S11 rfl rfl JH st10.dd st10.kk ?_;intro h12 hp12 S12 X12;exact Hn h12 _ oc hp12 (r10.trans (o11.trans (Old.of X12 Xq))) S12

theorem t239(P:Params):(hd.ktop_528 P).get 239=some i239:=by kernel_rfl
theorem Cz(P:Params):KT.of (hd.heap_266 P)=hd.ktop_528 P:=by kernel_rfl
theorem CA{h h':Heap}{K:Frag}{t:KT}(e:KT.of K=t)(k:∀b o,h.get? b=some o->h'.get? b=some o)(ZA:AllIn h K){a:Addr}{o:Obj}(g:t.get a=some o):h'.get? a=some o:=by
 subst e;exact kt_at (KT.Holds.keeps k (holds_of ZA)) g
theorem Fh{h h':Heap}{P:Params}(k:∀b o,h.get? b=some o->h'.get? b=some o)(ZA:AllIn h (hd.heap_266 P)){a:Addr}{o:Obj}(e:(hd.ktop_528 P).get a=some o):h'.get? a=some o:=
 CA (K:=hd.heap_266 P) (t:=hd.ktop_528 P) (Cz P) k ZA e
theorem Tv{P:Params}{a:Addr}{o:Obj}(e:pget P a=some o):(hd.ktop_528 P).get a=some o:=by
 unfold pget at e;cases h1:Nat.blt a 265 with
 | false=>rw [h1] at e;cases e
 | true=>
  rw [h1] at e;cases h2:Nat.beq a 239 with
  | true=>rw [h2] at e;cases e
  | false=>rw [h2] at e;exact e
theorem Ts{h h':Heap}{P:Params}(k:∀b o,h.get? b=some o->h'.get? b=some o)(ZA:AllIn h (hd.heap_266 P))(hl:265<=h'.objs.size):Prog P h':=⟨fun a o e=>Fh k ZA (Tv e),hl⟩
noncomputable def Mg(P:Params):Obj:=((hd.ktop_528 P).get 241).getD i239
noncomputable def K7(P:Params):Array Value:=match (Mg P).data with
 | .fields vs=>vs
 | _=>#[]
theorem t241(P:Params):(hd.ktop_528 P).get 241=some (Mg P):=by kernel_rfl
theorem c241(P:Params):(Mg P).cls=.type "code":=by kernel_rfl
theorem d241(P:Params):(Mg P).data=.fields (K7 P):=by kernel_rfl
theorem f241(P:Params):(K7 P)[11]? =some (.ref 239):=by kernel_rfl
theorem HU{h h':Heap}{P:Params}{oc:Option CC}(g239:h.get? 239=some i239)(g241:h.get? 241=some (Mg P))(o:Old h.objs.size h h')(S:Has h' (CC.cells oc)):OldK h h':=by
 have n239:∃more,h'.get? 239=some {i239 with data:=.fields ((#[]:Array Value)++more)}:=by
  cases oc with
  | none=>exact ⟨#[],S.own (239,i239) (.head _)⟩
  | some c=>exact ⟨#[.int 144 0,.int 39 0,.ref c.kc],S.own (239,Ze c.kc) (.head _)⟩
 refine ⟨fun b x e=>?_,fun b x e=>?_⟩
 ·by_cases hb:b=239
  ·subst hb;rw [g239] at e;cases e;obtain ⟨more,hm⟩:=n239;exact .inr (.inl ⟨⟨241,Mg P,K7 P,g241,c241 P,d241 P,f241 P⟩,rfl,#[],more,rfl,hm⟩)
  ·exact .inl (o.keep b x e (Heap.lt_size e) hb)
 ·by_cases hb:b=239
  ·subst hb;obtain ⟨more,hm⟩:=n239;exact ⟨_,hm⟩
  ·exact ⟨x,o.keep b x e (Heap.lt_size e) hb⟩
theorem Ff:∀{vs:List Value} {ns:List Int},IntsAre vs ns->Ints vs ns
 | _,_,.nil=>⟨rfl,fun i y h=>(nomatch h)⟩
 | _,_,.cons n t r=>⟨by rw [List.length_cons,List.length_cons,(Ff r).len],fun i y h=>by
   cases i with
   | zero=>cases h;exact ⟨t,rfl⟩
   | succ i=>exact (Ff r).at' i y h⟩
theorem FH:Room 320 callerA:=⟨rfl,by decide,by decide⟩

theorem joined:PySem.Challenge.rw_pu0043_01.Holds:=hd (by
 k_fill
 intro w s₀ s₁ mg mb G y fa o pm cd doc dV kV ho hd' hcd hD hmg hg args vals as L hpre hlay hrd hwl hlo;have zf:=z_facts (K:=hd.heap_266) (fun P=>by kernel_rfl) y;obtain ⟨ZA,ZI,ZN,ZT⟩:=zf;have KX:Frag.In (hd.heap_266 w.params) s₁.heap:=InK.keeps (K:=hd.heap_266) w s₀.heap s₁.heap ZI L.keeps;refine Ground.open G ?_;intro T B D TE TW
 wrow_args hpre hlay hrd hwl hlo
 obtain ⟨hat,hsz⟩:=script_at L;have htk:=script_toks L ZT;rw [ZN] at hat hsz;subst hat;clear G y;x_fa T KX hmg;clear T B D TE TW KX hD hcd hd' ho;rename_i ns hs hlay0 hLy hr hl2 as1 as2 vs as3 ra hI hra hc1 hc2 hL w1 r0;have hol:=script_obj L hL;have g239:s₁.heap.get? 239=some i239:=Fh L.keeps ZA (t239 w.params);have g241:s₁.heap.get? 241=some (Mg w.params):=Fh L.keeps ZA (t241 w.params);have hp:Prog (PP w) s₁.heap:=by
  rw [←QR];exact Ts L.keeps ZA (by rw [hsz];decide)
 have hI':=Ff hI;have H:Has s₁.heap [(265,listO vs 0),(239,i239)]:=by
  refine ⟨fun p hm=>?_,(show ([265,239]:List Nat).Nodup by decide),fun p hm=>?_⟩
  ·rcases List.mem_cons.mp hm with rfl | hm
   ·show s₁.heap.get? 265=some (listO vs 0);unfold listO;rw [Ye];exact hol
   ·rw [List.mem_singleton.mp hm];exact g239
  ·rcases List.mem_cons.mp hm with rfl | hm
   ·exact .inl (Nat.le_refl _)
   ·rw [List.mem_singleton.mp hm];exact .inr rfl
 refine enter_call ?_;refine TC (h:=s₁.heap) (g:=s₁.gens) (dr:=s₁.drawn) (os:=s₁.os) (tk:=s₁.toks) (vs:=vs) (xs:=ns) (e:=0) FH hp hI' (by rw [hI'.len];omega) H ?_;intro h' tk' oc' hp' o' S';exact ⟨.inl ⟨_,_,[],rfl,fun _=>rfl,ReadsW.bool true,by first | rfl | wrow_post,fun _=>⟨List.nodup_nil,fun _ hm=>(nomatch hm)⟩⟩,HU g239 g241 o' S',rfl,by rw [hg];exact AllBare.empty⟩)
end Mine
end
theorem PySem.Challenge.cw_pu0043_01_holds : PySem.Challenge.rw_pu0043_01.Holds := by
  exact Mine.joined
