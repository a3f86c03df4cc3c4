import PyProof.Rows.All
import Wide.All
import OpenK.AllK
import Wide.FinOn
import OpenK.ZHead
import Lean
import PySem.Challenge.RW_dn0006_02
set_option Elab.async false
set_option maxRecDepth 100000
set_option linter.all false
set_option maxHeartbeats 0
open PySem PySem.W PyProof.Rows
open Sem (wp finPost)
namespace Mine
set_option genInjectivity false
set_option genSizeOf false
section
variable {E X:Value->Pos->Shared->Prop}{Q:Flow->Pos->Shared->Prop}{a b:Bool}{apos p p0 p1 pos2:Pos}{body:List Stmt}{oc of:Obj}{tf:Tok}{vs:Array Value}{w:World}{Γ:Ctx}
noncomputable def fP (env : Env) (first : Str) (p1 : Pos) : Sem Value := do
  standAt p1
  let g <- loadName env "super"
  let cls <- loadName env "__class__"
  let oN <- loadName env first
  let qX <- isType cls
  if g == .type "super" && qX then call g [cls, oN] else holding [cls, oN] (call g [])
theorem oO {M:Model}{env:Env}{Q:List Env->Pos->Shared->Prop}{s:Shared}(aV:Γ.code=.func body env) (h:Q [] p s):wp M Γ comprehensionsAround Q E p s:=by
 unfold comprehensionsAround callersCodes
 rw [Sem.wp_bind',Sem.wp_bind']
 show wp M Γ (.stack .pure) _ _ p s
 rw [Sem.wp_stack,Sem.wp_pure,aV]
 dsimp only
 have e:pastTheWaiting ((.func body env,p)::Γ.below)=(.func body env,p)::pastTheWaiting.go false (some (.func body env)) Γ.below:=rfl
 rw [e]
 split
 ·rename_i hc
  exact absurd (show (some env.frame != some env.frame)=true from hc) (by simp)
 ·exact h
theorem ui {M:Model}{env:Env}{Fs:Str}{Gr:Sem Value}{f cc:Addr}{fd:FuncData}{ar:Arg}{file:Str}
  {Q:Value->Pos->Shared->Prop}{s:Shared}(aV:Γ.code=.func body env)
  (Gs:env.kindOf "super"=some .globalImplicit) (Gt:env.kindOf "__class__"=some .free) (v7:(Fs==("__class__":Str))=false) (Gu:env.func=some f) (hf:s.heap.get? f=some of) (v8:of.data=.func fd)
  (hp:(fd.params.posonlyargs++fd.params.args).head?=some ar) (v9:env.code=.ref cc) (qY:s.heap.get? cc=some oc) (wa:oc.data=.fields vs) (oP:vs[2]?=some (.str file tf))
  (lm:((M.prog.main.file:Str)==file)=true) (wb:(M.prog.main.scope.names.lookup ("super":Str)).isSome=false)
  (h:wp M Γ (fP env ar.arg p1) Q E p s):
  wp M Γ (attributeBase (.Call (.Name "super" p0) [] [] p1) Fs env Gr) Q E p s:=by
 unfold attributeBase
 simp only [bne_self_eq_false,v7,Gs,Gt,Gu,v9,Bool.or_false,Bool.or_self,Bool.false_eq_true,if_false,Option.isSome_some,if_true,pure_bind]
 unfold funcData
 rw [Sem.wp_bind',Sem.wp_bind',Sem.wp_load_of M Γ _ p s hf]
 simp only [v8,Sem.wp_pure',hp]
 rw [Sem.wp_bind']
 show wp M Γ (.ask .pure) _ _ p s
 rw [Sem.wp_ask,Sem.wp_pure]
 rw [Sem.wp_bind']
 refine (wp_field_iff Γ _ _ _ _ _ _).mpr ⟨cc,oc,vs,_,rfl,qY,wa,oP,?_⟩
 dsimp only
 simp only [lm,wb,if_true,Bool.false_eq_true,if_false]
 unfold fP at h
 simp only [Sem.wp_bind',Sem.wp_cmd_rule,Sem.wp_cmd_standAt] at h ⊢
 refine Sem.wp_mono M Γ _ (fun g p' s' h=>?_) (fun _ _ _ h=>h) _ _ h
 refine Sem.wp_mono M Γ _ (fun cls p' s' h=>?_) (fun _ _ _ h=>h) _ _ h
 exact oO aV h
noncomputable def gK (env : Env) (first : Str) (p1 : Pos) (name : Str) (o : Expr) (apos pos : Pos) (args : List Expr) (kws : List Keyword) (pos2 : Pos) : Sem Flow := do
  standAt pos2
  let v <- (do
    let ov <- fP env first p1
    standAt apos.atName
    methodCall o name apos pos env ov (args.length + kws.length) (backTo pos (starEach args env)) (backToKw pos (keywordEach kws env)))
  dropValue (.Call (.Attribute o name apos) args kws pos) pos2 v
theorem mE {prog : Program} {env : Env} {name : Str} {pos : Pos} {args : List Expr} {kws : List Keyword} {f cc : Addr} {fd : FuncData} {ar : Arg} {file : Str}
 {s : Shared}
    (aV : Γ.code = .func body env) (hi : interactive env = false)
    (Gs : env.kindOf "super" = some .globalImplicit) (Gt : env.kindOf "__class__" = some .free) (v7 : (name == ("__class__" : Str)) = false) (Gu : env.func = some f) (hf : s.heap.get? f = some of) (v8 : of.data = .func fd)
    (hp : (fd.params.posonlyargs ++ fd.params.args).head? = some ar) (v9 : env.code = .ref cc) (qY : s.heap.get? cc = some oc) (wa : oc.data = .fields vs) (oP : vs[2]? = some (.str file tf))
    (lm : ((prog.main.file : Str) == file) = true) (wb : (prog.main.scope.names.lookup ("super" : Str)).isSome = false)
    (h : wp (model prog w) Γ (gK env ar.arg p1 name (.Call (.Name "super" p0) [] [] p1) apos pos args kws pos2) Q E p s) :
    wp (model prog w) Γ (exec (.Expr (.Call (.Attribute (.Call (.Name "super" p0) [] [] p1) name apos) args kws pos) pos2) env) Q E p s := by
  have e : exec (.Expr (.Call (.Attribute (.Call (.Name "super" p0) [] [] p1) name apos) args kws pos) pos2) env = (do
          standAt pos2
          if interactive env then printExpr (eval (.Call (.Attribute (.Call (.Name "super" p0) [] [] p1) name apos) args kws pos) env)
          else do
            let v <- (do
              let ov <- attributeBase (.Call (.Name "super" p0) [] [] p1) name env (eval (.Call (.Name "super" p0) [] [] p1) env)
              standAt apos.atName
              methodCall (.Call (.Name "super" p0) [] [] p1) name apos pos env ov (args.length + kws.length) (backTo pos (starEach args env)) (backToKw pos (keywordEach kws env)))
            dropValue (.Call (.Attribute (.Call (.Name "super" p0) [] [] p1) name apos) args kws pos) pos2 v : Sem Flow) := rfl
  rw [e, hi]
  simp only [gK, Bool.false_eq_true, if_false, Sem.wp_bind', Sem.wp_cmd_standAt] at h ⊢
  exact ui aV Gs Gt v7 Gu hf v8 hp v9 qY wa oP lm wb h
noncomputable def ln:Str:=⟨⟨[115,117,112,101,114]⟩⟩
noncomputable def lp:Str:=⟨⟨[95,95,99,108,97,115,115,95,95]⟩⟩
theorem oQ:Str.ofString "super"=ln:=by unfold ln;decide+kernel
theorem oR:Str.ofString "__class__"=lp:=by unfold lp;decide+kernel
noncomputable def wc (o:Option NameKind):Bool:=match o with | some .globalImplicit=>true | _=>false
noncomputable def wd (o:Option NameKind):Bool:=match o with | some .free=>true | _=>false
theorem we {o:Option NameKind}(h:wc o=true):o=some .globalImplicit:=by unfold wc at h;split at h<;>first | rfl | cases h
theorem wf {o:Option NameKind}(h:wd o=true):o=some .free:=by unfold wd at h;split at h<;>first | rfl | cases h
noncomputable def lq (a b:Bool):Bool:=@Bool.rec (fun _=>Bool) false b a
noncomputable def lr (a:Bool):Bool:=@Bool.rec (fun _=>Bool) true false a
theorem gq (h:lq a b=true):a=true/\b=true:=by cases a<;>cases b<;>first | exact ⟨rfl,rfl⟩ | cases h
theorem iD (h:lr a=true):a=false:=by cases a<;>first | rfl | cases h
noncomputable def wg (prog:Program) (env:Env) (id name file:Str):Bool:=
 lq (Fast.sEq id ln) (lq (lr (Fast.tw15112477048112897374 env)) (lq (wc (Fast.tw4777696345729990297 env ln)) (lq (wd (Fast.tw4777696345729990297 env lp)) (lq (lr (Fast.sEq name lp))
  (lq (Fast.sEq prog.main.file file) (lr (@List.lookup _ _ (@instBEqOfDecidableEq _ Fast.sDec) ln prog.main.scope.names).isSome))))))
noncomputable def ik (env:Env) (first:Str) (p1:Pos):Sem Value:=
 R.bindR (standAt p1) fun _=>R.bindR (Fast.tw8468629109055619292 env ln) fun g=>R.bindR (Fast.tw8468629109055619292 env lp) fun cls=>R.bindR (Fast.tw8468629109055619292 env first) fun oN=>
  R.bindR (Fast.tw10380811246957099773 cls) fun qX=>if (g==.type "super"&&qX)=true then Fast.tw11478286150595567475 g [cls,oN] [] else Fast.tw17359229931016689406 [cls,oN] (Fast.tw11478286150595567475 g [] [])
noncomputable def il (env:Env) (first:Str) (p1:Pos) (name:Str) (o:Expr) (apos pos:Pos) (args:List Expr) (kws:List Keyword) (pos2:Pos):Sem Flow:=
 R.bindR (standAt pos2) fun _=>R.bindR (R.bindR (ik env first p1) fun ov=>R.bindR (standAt apos.atName) fun _=>
   Fast.tw13401596951702201221 o name apos pos env ov (args.length+kws.length) (Fast.tw4897270859577272712 pos (Fast.tw13897175071876407860 args env)) (Fast.tw621762911399731506 pos (Fast.tw11621922129505618389 kws env)))
   fun v=>Fast.tw12372662630863984472 (.Call (.Attribute o name apos) args kws pos) pos2 v
theorem lu:fP=ik:=by
 funext env first p1
 unfold fP ik
 rw [<- R.bindR_eq,<- Fast.te8468629109055619292,<- Fast.te10380811246957099773,<- Fast.te11478286150595567475,<- Fast.te17359229931016689406,oQ,oR]
 rfl
theorem lv:gK=il:=by
 funext env first p1 name o apos pos args kws pos2
 unfold gK il
 rw [<- R.bindR_eq,<- lu,<- Fast.te13401596951702201221,<- Fast.te4897270859577272712,<- Fast.te13897175071876407860,<- Fast.te621762911399731506,<- Fast.te11621922129505618389,<- Fast.te12372662630863984472]
 rfl
noncomputable def wh (env:Env) (s:Stmt):Sem Flow:=Fast.tw12563942051412417395 [s] env
theorem sB {M:Model}{env:Env}{s:Stmt}{st:Shared}(h:wp M Γ (wh env s) Q E p st):wp M Γ (exec s env) Q E p st:=by
 unfold wh at h
 rw [<- Fast.te12563942051412417395] at h
 have h:wp M Γ (exec s env>>=fun f=>match f with | .next=>execs [] env | f=>pure f) Q E p st:=h
 rw [Sem.wp_bind'] at h
 refine Sem.wp_mono M Γ _ (fun f p' s' h=>?_) (fun _ _ _ h=>h) _ _ h
 cases f<;>exact h
noncomputable def qZ (S:Stmt->Sem Flow) (l:List Stmt):Sem Flow:=@List.rec Stmt (fun _=>Sem Flow) (.pure .next) (fun s _ ih=>R.bindR (S s) fun f=>match f with | .next=>ih | .brk=>.pure .brk | .cont=>.pure .cont | .ret v=>.pure (.ret v)) l
theorem nD {M:Model}{Γ:Ctx}{env:Env}{S:Stmt->Sem Flow}(H:∀ s Q E p st,wp M Γ (S s) Q E p st->wp M Γ (exec s env) Q E p st):∀ (l:List Stmt) (Q:Flow->Pos->Shared->Prop) (E:Value->Pos->Shared->Prop) (p:Pos) (st:Shared),wp M Γ (qZ S l) Q E p st->wp M Γ (execs l env) Q E p st
 | [],Q,E,p,st,h=>h
 | s::l,Q,E,p,st,h=>by
  have h:wp M Γ (R.bindR (S s) fun f=>match f with | .next=>qZ S l | .brk=>.pure .brk | .cont=>.pure .cont | .ret v=>.pure (.ret v)) Q E p st:=h
  rw [<- R.bindR_eq] at h
  have h:wp M Γ (S s>>=fun f=>match f with | .next=>qZ S l | .brk=>.pure .brk | .cont=>.pure .cont | .ret v=>.pure (.ret v)) Q E p st:=h
  show wp M Γ (exec s env>>=fun f=>match f with | .next=>execs l env | f=>pure f) Q E p st
  rw [Sem.wp_bind'] at h ⊢
  refine Sem.wp_mono M Γ _ (fun f p' s' h=>?_) (fun _ _ _ h=>h) _ _ (H _ _ _ _ _ h)
  cases f with
  | next=>exact nD H l Q E p' s' h
  | brk=>exact h
  | cont=>exact h
  | ret v=>exact h
noncomputable def sC (env:Env) (id:Str) (p0 p1:Pos) (name:Str) (apos pos:Pos) (args:List Expr) (kws:List Keyword) (pos2:Pos):Sem Flow:=match env.func with
 | some f=>match env.code with
  | .ref cc=>.load f none fun of=>.load cc none fun oc=>.ask fun st=>match of.data with
   | .func fd=>match (fd.params.posonlyargs++fd.params.args).head? with
    | some ar=>match oc.data with
     | .fields vs=>match (vs[2]?:Option Value) with
      | some (Value.str file _)=>match wg st.program env id name file with
       | true=>il env ar.arg p1 name (.Call (.Name id p0) [] [] p1) apos pos args kws pos2
       | false=>.unsupported "no"
      | _=>.unsupported "no"
     | _=>.unsupported "no"
    | none=>.unsupported "no"
   | _=>.unsupported "no"
  | _=>.unsupported "no"
 | none=>.unsupported "no"
theorem wi {prog:Program}{env:Env}{id:Str}{name:Str}{pos:Pos}{args:List Expr}{kws:List Keyword}{s:Shared}
  (hc:Γ.code=.func body env) (h:wp (model prog w) Γ (sC env id p0 p1 name apos pos args kws pos2) Q X p s):
  wp (model prog w) Γ (exec (.Expr (.Call (.Attribute (.Call (.Name id p0) [] [] p1) name apos) args kws pos) pos2) env) Q X p s:=by
 unfold sC at h
 split at h
 case h_2=>exact h.elim
 rename_i f hf
 split at h
 case h_2=>exact h.elim
 rename_i cc qY
 obtain ⟨of,LL,h⟩:=h
 obtain ⟨oc,wa,h⟩:=h
 rw [Sem.wp_ask] at h
 split at h
 case h_2=>exact h.elim
 rename_i fd v8
 split at h
 case h_2=>exact h.elim
 rename_i ar har
 split at h
 case h_2=>exact h.elim
 rename_i vs oP
 split at h
 case h_2=>exact h.elim
 rename_i file tf lm
 split at h
 case h_2=>exact h.elim
 rename_i ok
 unfold wg at ok
 obtain ⟨q1,ok⟩:=gq ok
 obtain ⟨q2,ok⟩:=gq ok
 obtain ⟨q3,ok⟩:=gq ok
 obtain ⟨q4,ok⟩:=gq ok
 obtain ⟨q5,ok⟩:=gq ok
 obtain ⟨q6,q7⟩:=gq ok
 obtain rfl:=Fast.sEq_iff.mp q1
 have q2:=iD q2
 rw [<- Fast.te15112477048112897374] at q2
 have q3:=we q3
 have q4:=wf q4
 rw [<- Fast.te4777696345729990297] at q3 q4
 have q5:(name==lp)=false:=by
  cases x:name==lp with
  | false=>rfl
  | true=>
   have:=iD q5
   rw [eq_of_beq x,Fast.sEq_iff.mpr rfl] at this
   cases this
 have q6:prog.main.file=file:=Fast.sEq_iff.mp q6
 have q7:=iD q7
 rw [<- Fast.sDec_eq] at q7
 rw [<- oQ] at q3 q7 h ⊢
 rw [<- oR] at q4 q5
 rw [<- lv] at h
 exact mE hc q2 q3 q4 q5 hf LL v8 har qY wa oP lm (by rw [q6];exact beq_self_eq_true _) q7 h
noncomputable def wj:(s:Stmt)->Option {x:Expr×List Stmt×List Stmt×Pos // s=.If x.1 x.2.1 x.2.2.1 x.2.2.2}
 | .If t b o p=>some ⟨(t,b,o,p),rfl⟩
 | _=>none
structure IM where
 id:Str
 p0:Pos
 p1:Pos
 name:Str
 apos:Pos
 pos:Pos
 args:List Expr
 kws:List Keyword
 pos2:Pos
noncomputable def ra:(s:Stmt)->Option {x:IM // s=.Expr (.Call (.Attribute (.Call (.Name x.id x.p0) [] [] x.p1) x.name x.apos) x.args x.kws x.pos) x.pos2}
 | .Expr (.Call (.Attribute (.Call (.Name id p0) [] [] p1) name apos) args kws pos) pos2=>some ⟨⟨id,p0,p1,name,apos,pos,args,kws,pos2⟩,rfl⟩
 | _=>none
noncomputable def Dv (env:Env) (ih:Stmt->Sem Flow) (x:Expr×List Stmt×List Stmt×Pos):Sem Flow:=R.bindR (standAt x.2.2.2) fun _=>R.bindR (Fast.tw15418851999007992765 x.1 env (Fast.tw14044960220447912780 x.1 env)) fun b=>@Bool.rec (fun _=>Sem Flow) (qZ ih x.2.2.1) (qZ ih x.2.1) b
noncomputable def Gv (env:Env) (k:Nat):Stmt->Sem Flow:=@Nat.rec (fun _=>Stmt->Sem Flow) (wh env) (fun _ ih s=>match wj s with
 | some x=>Dv env ih x.1
 | none=>match ra s with
  | some x=>sC env x.1.id x.1.p0 x.1.p1 x.1.name x.1.apos x.1.pos x.1.args x.1.kws x.1.pos2
  | none=>wh env s) k
theorem Dw {prog : Program} {env : Env} {ih : Stmt -> Sem Flow} (IH : ∀ l Q E p st, wp (model prog w) Γ (qZ ih l) Q E p st -> wp (model prog w) Γ (execs l env) Q E p st) {x : Expr × List Stmt × List Stmt × Pos} {Q E p st}
    (h : wp (model prog w) Γ (Dv env ih x) Q E p st) : wp (model prog w) Γ (exec (.If x.1 x.2.1 x.2.2.1 x.2.2.2) env) Q E p st := by
  unfold Dv at h
  rw [<- R.bindR_eq, <- Fast.te15418851999007992765, <- Fast.te14044960220447912780] at h
  have b (α β : Type) (m : Sem α) (f : α -> Sem β) : m.bind f = m >>= f := rfl
  simp only [b, Sem.wp_bind'] at h
  show wp (model prog w) Γ (do standAt x.2.2.2; if <- isTrue x.1 env (eval x.1 env) then execs x.2.1 env else execs x.2.2.1 env) Q E p st
  simp only [Sem.wp_bind']
  refine Sem.wp_mono _ Γ _ (fun _ p' s' h => ?_) (fun _ _ _ h => h) _ _ h
  refine Sem.wp_mono _ Γ _ (fun c p' s' h => ?_) (fun _ _ _ h => h) _ _ h
  cases c with
  | true => rw [if_pos rfl]; exact IH _ _ _ _ _ h
  | false => rw [if_neg Bool.false_ne_true]; exact IH _ _ _ _ _ h
theorem sD {prog:Program}{w:World}{Γ:Ctx}{body:List Stmt}{env:Env}(hc:Γ.code=.func body env):∀ (k:Nat) s Q E p st,wp (model prog w) Γ (Gv env k s) Q E p st->wp (model prog w) Γ (exec s env) Q E p st
 | 0,s,Q,E,p,st,h=>sB h
 | k+1,s,Q,E,p,st,h=>by
  have h:wp (model prog w) Γ (match wj s with
   | some x=>Dv env (Gv env k) x.1
   | none=>match ra s with
    | some x=>sC env x.1.id x.1.p0 x.1.p1 x.1.name x.1.apos x.1.pos x.1.args x.1.kws x.1.pos2
    | none=>wh env s) Q E p st:=h
  generalize wj s=a at h
  generalize ra s=b at h
  match a,b,h with
  | some ⟨x,e⟩,_,h=>rw [e];exact Dw (nD (sD hc k)) h
  | none,some ⟨x,e⟩,h=>rw [e];exact wi hc h
  | none,none,h=>exact sB h
noncomputable def rb (body:List Stmt) (env:Env):Sem Fin:=
 R.bindR point fun _=>R.bindR (R.onRaiseR (qZ (Gv env 5) body) (Fast.tw9442747609961115081 env)) fun fl=>match fl with | .ret v=>Fast.tw6905046200447255374 v | _=>Fast.tw6905046200447255374 .none
theorem uj {prog : Program} {env : Env} (hc : Γ.code = .func body env) {Q : Fin -> Pos -> Shared -> Prop} {s : Shared}
    (h : wp (model prog w) Γ (rb body env) Q E p s) : wp (model prog w) Γ (denote table Γ.code) Q E p s := by
  rw [hc]
  unfold rb at h
  rw [<- R.bindR_eq, <- R.onRaiseR_eq, <- Fast.te9442747609961115081, <- Fast.te6905046200447255374] at h
  have b (α β : Type) (m : Sem α) (f : α -> Sem β) : m.bind f = m >>= f := rfl
  show wp (model prog w) Γ (do point; match <- (execs body env).onRaise (leaving env) with | .ret v => ret v | _ => ret .none) Q E p s
  simp only [b, Sem.wp_bind', Sem.wp_cmd_point, Sem.wp_onRaise] at h ⊢
  refine Sem.wp_mono _ Γ _ (fun f p' s' h => ?_) (fun _ _ _ h => h) _ _ (nD (sD hc 5) body _ _ _ _ h)
  cases f <;> exact h
noncomputable def sE (k:Nat):Stmt->Bool:=@Nat.rec (fun _=>Stmt->Bool) (fun _=>false) (fun _ ih s=>match s with
 | .If _ body aW _=>@Bool.rec (fun _=>Bool) (anyL ih aW) true (anyL ih body)
 | .Expr (.Call (.Attribute (.Call (.Name id _) [] [] _) _ _) _ _ _) _=>Fast.sEq id ln
 | _=>false) k
where anyL (f:Stmt->Bool) (l:List Stmt):Bool:=@List.rec Stmt (fun _=>Bool) false (fun s _ ih=>@Bool.rec (fun _=>Bool) ih true (f s)) l
end
section
variable {E:En}{X:Value->Pos->Shared->Prop}{a b g i n tk x:Nat}{gd own:Bool}{hd kj:Option Value}{hs:List Nat}{m:Mm}{o:Obj}{p q:Pos}{Γ:Ctx}
noncomputable abbrev Mm:=List (Addr×Obj)
noncomputable def ad (l:Mm):Nat->Option (Addr×Obj):=
 @List.rec (Addr×Obj) (fun _=>Nat->Option (Addr×Obj)) (fun _=>none) (fun x _ ih i=>@Nat.rec (fun _=>Option (Addr×Obj)) (some x) (fun j _=>ih j) i) l
noncomputable def cg (l:Mm):Nat->Obj->Mm:=
 @List.rec (Addr×Obj) (fun _=>Nat->Obj->Mm) (fun _ _=>[]) (fun x r ih i o=>@Nat.rec (fun _=>Mm) ((x.1,o)::r) (fun j _=>x::ih j o) i) l
noncomputable def d7 (l:Mm) (y:Addr×Obj):Mm:=
 @List.rec (Addr×Obj) (fun _=>Mm) [y] (fun x _ ih=>x::ih) l
noncomputable def aE (l:Mm):Nat:=@List.rec (Addr×Obj) (fun _=>Nat) 0 (fun _ _ ih=>Nat.succ ih) l
noncomputable def gL (a:Nat) (l:List Nat):Bool:=@List.rec Nat (fun _=>Bool) false (fun x _ ih=>@Bool.rec (fun _=>Bool) ih true (Nat.beq a x)) l
theorem dg:∀ (l:Mm) (i j:Nat) (o:Obj),ad (cg l i o) j=if j=i then (ad l i).map (fun x=>(x.1,o)) else ad l j
 | [],i,j,o=>by show none=if j=i then Option.map _ none else none;split<;>rfl
 | x::r,0,0,o=>rfl
 | x::r,0,j+1,o=>by show ad r j=_;rw [if_neg (by lia)];rfl
 | x::r,i+1,0,o=>by show some x=_;rw [if_neg (by lia)];rfl
 | x::r,i+1,j+1,o=>by
  show ad (cg r i o) j=_
  rw [dg r i j o]
  by_cases h:j=i
  ·rw [if_pos h,if_pos (by lia)];rfl
  ·rw [if_neg h,if_neg (by lia)];rfl
theorem bf:∀ (l:Mm) (y:Addr×Obj) (j:Nat),ad (d7 l y) j=if j=aE l then some y else ad l j
 | [],y,0=>rfl
 | [],y,j+1=>rfl
 | x::r,y,0=>by show some x=_;rw [if_neg (show ¬ 0=aE (x::r) from fun e=>nomatch (show 0=Nat.succ (aE r) from e))];rfl
 | x::r,y,j+1=>by
  show ad (d7 r y) j=if j+1=Nat.succ (aE r) then some y else ad r j
  rw [bf r y j]
  by_cases h:j=aE r
  ·rw [if_pos h,if_pos (by lia)]
  ·rw [if_neg h,if_neg (by lia)]
theorem gr:∀ (l:Mm) (i:Nat) (x:Addr×Obj),ad l i=some x->i < aE l
 | [],_,_,h=>nomatch h
 | _::_,0,_,_=>Nat.succ_pos _
 | _::r,i+1,x,h=>Nat.succ_lt_succ (gr r i x h)
structure Fm where
 Γ:Ctx
 p:Pos
 k:Result->Sem Fin
structure eL where
 Γ:Ctx
 p:Pos
 κ:List Fm
 t:Sem Fin
 m:Mm
 n:Nat
 tk:Nat
structure bC where
 Γ:Ctx
 code:Code
 p:Pos
 m:Mm
 n:Nat
 tk:Nat
structure fz where
 t:Sem Fin
 p:Pos
 m:Mm
 n:Nat
 tk:Nat
 hs:List Nat
structure Out where
 c:eL
 L:List Nat
 R:List Nat
 A:List bC
structure En where
 prog:Program
 w:World
 T:BT
 mu:List Nat
 G:Array GenState->Prop
 nb:Bool
 gs:Option (Nat×(GenStatus×Option (List (Code×Pos))))
 hgs:∀ x,gs=some x->∀ a,G a->∃ st,a[x.1]?=some st/\st.seen=x.2
theorem oS {G:Array GenState->Prop}:∀ x,(none:Option (Nat×(GenStatus×Option (List (Code×Pos)))))=some x->∀ a,G a->∃ st,a[x.1]?=some st/\st.seen=x.2:=fun _ h=>nomatch h
noncomputable def den:Code->Sem Fin:=Fast.tw11892475500146522536 Fast.tw14364793385576792824
theorem iE:den=denote table:=by
 rw [table_eq_tree,Fast.te11892475500146522536,Fast.te14364793385576792824];rfl
noncomputable def mV (E:En) (c:Code):Option (Sem Fin):=match c with
 | .func body env=>match sE.anyL (sE 5) body with
  | true=>some (rb body env)
  | false=>none
 | _=>none
theorem kl {t:Sem Fin}(h:mV E Γ.code=some t)
  {Q:Fin->Pos->Shared->Prop}{s:Shared}(hw:wp (model E.prog E.w) Γ t Q X p s):wp (model E.prog E.w) Γ (denote table Γ.code) Q X p s:=by
 unfold mV at h
 split at h
 case h_2=>cases h
 rename_i body env hc
 split at h
 case h_2=>cases h
 cases h
 exact uj hc hw
noncomputable def stop (c:eL):Out:=⟨c,[],[],[]⟩
noncomputable def tie (a b:Nat) (o:Out):Out:=⟨o.c,a::o.L,b::o.R,o.A⟩
noncomputable def wk (a:bC) (o:Out):Out:=⟨o.c,o.L,o.R,a::o.A⟩
noncomputable abbrev Ih:=List Nat->List (bC->fz)->eL->Out
noncomputable def pop (ih:Ih) (hs:List Nat) (as:List (bC->fz)) (r:Result) (c:eL):Out:=match c.κ with
 | []=>stop c
 | f::κ=>ih hs as ⟨f.Γ,f.p,κ,f.k r,c.m,c.n,c.tk⟩
noncomputable def sF (ih:Ih) (a:bC->fz) (as:List (bC->fz)) (q:bC) (κ:List Fm):Out:=
 wk q (ih (a q).hs as ⟨q.Γ,(a q).p,κ,(a q).t,(a q).m,(a q).n,(a q).tk⟩)
noncomputable def k9 (κ:List Fm):Bool:=match κ with | []=>false | _::_=>true
noncomputable def Dx (a b:Bool):Bool:=match a with | true=>true | false=>b
noncomputable def nE (E:En) (ih:Ih) (hs:List Nat) (as:List (bC->fz)) (c:eL):Out:=match c.t with
 | .pure fin=>match fin with
  | .done f=>pop ih hs as (.ok f) c
  | .again c'=>match hs with
   | []=>stop c
   | x::cB=>match x with
    | 0=>match c'.quiet with
     | true=>ih cB as ⟨c.Γ.goto c',c.p,c.κ,den c',c.m,c.n,c.tk⟩
     | false=>stop c
    | y+1=>match c'.quiet with
     | true=>match y with
      | 0=>match c.κ with
       | []=>stop c
       | _::_=>match as with
        | []=>stop c
        | a::iQ=>sF ih a iQ ⟨c.Γ.goto c',c',c.p,c.m,c.n,c.tk⟩ c.κ
      | y+1=>match y with
       | 0=>match Dx (k9 c.κ) E.nb with
        | true=>match mV E c' with
         | some t=>ih cB as ⟨c.Γ.goto c',c.p,c.κ,t,c.m,c.n,c.tk⟩
         | none=>stop c
        | false=>stop c
       | _+1=>stop c
     | false=>stop c
 | .raise e=>pop ih hs as (.error e) c
 | .rule _ k=>ih hs as ⟨c.Γ,c.p,c.κ,k (),c.m,c.n,c.tk⟩
 | .point _ k=>ih hs as ⟨c.Γ,c.p,c.κ,k (),c.m,c.n,c.tk⟩
 | .at q k=>ih hs as ⟨c.Γ,q,c.κ,k (),c.m,c.n,c.tk⟩
 | .ask k=>ih hs as ⟨c.Γ,c.p,c.κ,k ⟨E.prog,E.w.params⟩,c.m,c.n,c.tk⟩
 | .fresh k=>ih hs as ⟨c.Γ,c.p,c.κ,k c.tk,c.m,c.n,c.tk+1⟩
 | .handled own k=>ih hs as ⟨c.Γ,c.p,c.κ,k (match own with | true=>c.Γ.own | false=>c.Γ.handled),c.m,c.n,c.tk⟩
 | .stack k=>ih hs as ⟨c.Γ,c.p,c.κ,k ((c.Γ.code,c.p)::c.Γ.below),c.m,c.n,c.tk⟩
 | .thread k=>ih hs as ⟨c.Γ,c.p,c.κ,k 0,c.m,c.n,c.tk⟩
 | .load a _ k=>match hs with
  | []=>stop c
  | x::cB=>match x with
   | 0=>match gL a E.mu with
    | true=>stop c
    | false=>match E.T.get a with
     | some o=>ih cB as ⟨c.Γ,c.p,c.κ,k o,c.m,c.n,c.tk⟩
     | none=>stop c
   | i+1=>match ad c.m i with
    | some x=>tie a x.1 (ih cB as ⟨c.Γ,c.p,c.κ,k x.2,c.m,c.n,c.tk⟩)
    | none=>stop c
 | .loadIfAlive a k=>match hs with
  | []=>stop c
  | x::cB=>match x with
   | 0=>match gL a E.mu with
    | true=>stop c
    | false=>match E.T.get a with
     | some o=>ih cB as ⟨c.Γ,c.p,c.κ,k (some o),c.m,c.n,c.tk⟩
     | none=>stop c
   | i+1=>match ad c.m i with
    | some x=>tie a x.1 (ih cB as ⟨c.Γ,c.p,c.κ,k (some x.2),c.m,c.n,c.tk⟩)
    | none=>stop c
 | .update a _ f k=>match hs with
  | []=>stop c
  | x::cB=>match x with
   | 0=>stop c
   | i+1=>match ad c.m i with
    | some x=>match (f x.2).isFreed with
     | false=>tie a x.1 (ih cB as ⟨c.Γ,c.p,c.κ,k (),cg c.m i (f x.2),c.n,c.tk⟩)
     | true=>stop c
    | none=>stop c
 | .alloc o k=>match o.isFreed with
  | false=>ih hs as ⟨c.Γ,c.p,c.κ,k c.n,d7 c.m (c.n,o),c.n+1,c.tk⟩
  | true=>stop c
 | .call c' hd _ _ k=>match hs with
  | []=>stop c
  | x::cB=>match x with
   | 0=>ih cB as ⟨c.Γ.enter c' hd c.p,c.p,⟨c.Γ,c.p,k⟩::c.κ,den c',c.m,c.n,c.tk⟩
   | _+1=>match as with
    | []=>stop c
    | a::iQ=>sF ih a iQ ⟨c.Γ.enter c' hd c.p,c',c.p,c.m,c.n,c.tk⟩ (⟨c.Γ,c.p,k⟩::c.κ)
 | .unsupported _=>stop c
 | .finish _=>stop c
 | .register ..=>stop c
 | .choose ..=>stop c
 | .os ..=>stop c
 | .genState g k=>match E.gs with
  | some x=>tie g x.1 (ih hs as ⟨c.Γ,c.p,c.κ,k x.2,c.m,c.n,c.tk⟩)
  | none=>stop c
 | .newGen ..=>stop c
 | .resume ..=>stop c
 | .yield ..=>stop c
 | .fork ..=>stop c
 | .await ..=>stop c
noncomputable def dH (E:En) (fuel:Nat):Ih:=@Nat.rec (fun _=>Ih) (fun _ _ c=>stop c) (fun _ ih=>nE E ih) fuel
structure lw (M:Model) (nb:Bool) where
 B:Ctx->Sem Fin->Pos->Shared->Prop
 rule:∀ {Γ Dy k p s},B Γ (k ()) p s->B Γ (.rule Dy k) p s
 point:∀ {Γ l k p s},B Γ (k ()) p s->B Γ (.point l k) p s
 at_:∀ {Γ q k p s},B Γ (k ()) q s->B Γ (.at q k) p s
 ask:∀ {Γ k p s},B Γ (k ⟨M.prog,M.w.params⟩) p s->B Γ (.ask k) p s
 fresh:∀ {Γ k p s},B Γ (k s.toks) p {s with toks:=s.toks+1}->B Γ (.fresh k) p s
 handled:∀ {Γ own k p s},B Γ (k (if own then Γ.own else Γ.handled)) p s->B Γ (.handled own k) p s
 stack:∀ {Γ k p s},B Γ (k ((Γ.code,p)::Γ.below)) p s->B Γ (.stack k) p s
 thread:∀ {Γ k p s},B Γ (k 0) p s->B Γ (.thread k) p s
 load:∀ {Γ a kj k p s o},s.heap.get? a=some o->B Γ (k o) p s->B Γ (.load a kj k) p s
 loadIfAlive:∀ {Γ a k p s},B Γ (k (s.heap.get? a)) p s->B Γ (.loadIfAlive a k) p s
 update:∀ {Γ a kj f k p s},(s.heap.get? a).isSome=true->B Γ (k ()) p {s with heap:=s.heap.update a f}->B Γ (.update a kj f k) p s
 genState:∀ {Γ g k p s st},s.gens[g]?=some st->B Γ (k st.seen) p s->B Γ (.genState g k) p s
 alloc:∀ {Γ o k p s},B Γ (k s.heap.objs.size) p {s with heap:=s.heap.push o}->B Γ (.alloc o k) p s
 call:∀ {Γ c h g l k p s},wpCode M (Γ.enter c h p) (fun r s'=>B Γ (k r) p s') p s->B Γ (.call c h g l k) p s
 again:∀ {Γ c p s},c.quiet=true->B (Γ.goto c) (M.den c) p s->B Γ (.pure (.again c)) p s
 sup:nb=true->∀ {Γ c t p s},c.quiet=true->(∀ Q X,wp M (Γ.goto c) t Q X p s->wp M (Γ.goto c) (M.den c) Q X p s)->B (Γ.goto c) t p s->B Γ (.pure (.again c)) p s
noncomputable def Ft (M:Model) (nb:Bool) (R:Result->Shared->Prop):lw M nb where
 B Γ t p s:=wp M Γ t (finPost M Γ R) (fun e _ s'=>R (.error e) s') p s
 rule h:=h
 point h:=h
 at_ h:=h
 ask h:=h
 fresh h:=h
 handled h:=h
 stack h:=h
 thread h:=h
 load e h:=⟨_,e,h⟩
 loadIfAlive h:=h
 update e h:=⟨e,h⟩
 genState e h:=⟨_,e,h⟩
 alloc h:=h
 call h:=h
 again q h:=⟨q,(wpCode_iff_wp _ _ _ _ _).mpr h⟩
 sup _ {_ _ _ _ _} q f h:=⟨q,(wpCode_iff_wp _ _ _ _ _).mpr (f _ _ h)⟩
noncomputable def mW (M:Model) {nb:Bool}(B:lw M nb) (f:Fm) (κ:List Fm):Result->Shared->Prop:=match κ with
 | []=>fun r s=>B.B f.Γ (f.k r) f.p s
 | f'::κ=>fun r s=>wp M f.Γ (f.k r) (finPost M f.Γ (mW M B f' κ)) (fun e _ s'=>mW M B f' κ (.error e) s') f.p s
noncomputable def bP (M:Model) {nb:Bool}(B:lw M nb) (c:eL) (s:Shared):Prop:=match c.κ with
 | []=>B.B c.Γ c.t c.p s
 | f::κ=>wp M c.Γ c.t (finPost M c.Γ (mW M B f κ)) (fun e _ s'=>mW M B f κ (.error e) s') c.p s
noncomputable def Wc (M:Model) (R:Result->Shared->Prop) (c:eL) (s:Shared):Prop:=bP M (Ft M true R) c s
theorem dO {M:Model}{R:Result->Shared->Prop}{t:Sem Fin}{s:Shared}:Wc M R ⟨Γ,p,[],t,m,n,tk⟩ s=wp M Γ t (finPost M Γ R) (fun e _ s'=>R (.error e) s') p s:=rfl
structure ag (E:En) (h₀:Heap) (Y:Nat) (m:Mm) (n:Nat) (h:Heap):Prop where
 size:h.objs.size=n
 base:∀ a o,E.T.get a=some o->gL a E.mu=false->h.get? a=some o
 own:∀ i a o,ad m i=some (a,o)->h.get? a=some o
 apart:∀ i j a o o',ad m i=some (a,o)->ad m j=some (a,o')->i=j
 off:∀ i a o,ad m i=some (a,o)->gL a E.mu=true∨E.T.get a=none
 keep:∀ b o,h₀.get? b=some o->(∀ i a o',i < Y->ad m i=some (a,o')->a≠b)->h.get? b=some o
 start:h₀.objs.size<=n
 fresh:∀ i a o,Y<=i->ad m i=some (a,o)->h₀.objs.size<=a
 old:Y<=aE m
 lowT:∀ a,n<=a->E.T.get a=none
section
variable {E:En}{h₀:Heap}{Y:Nat}{m:Mm}{n:Nat}{h:Heap}
theorem ag.push (r:ag E h₀ Y m n h) (hf:o.isFreed=false):ag E h₀ Y (d7 m (n,o)) (n+1) (h.push o):=by
 have hn:(h.push o).get? n=some o:=by rw [<- r.size];exact Heap.get?_push_size h hf
 have lt:∀ i a o',ad m i=some (a,o')->a < n:=fun i a o' e=>r.size▸Heap.lt_size (r.own i a o' e)
 refine ⟨by rw [Heap.size_push,r.size],fun a o' e q=>Heap.get?_push_of_some _ (r.base a o' e q),fun i a o' e=>?_,fun i j a o1 o2 e1 e2=>?_,fun i a o' e=>?_,fun b o' e q=>?_,Nat.le_succ_of_le r.start,fun i a o' hi e=>?_,?_,fun a ha=>r.lowT a (by lia)⟩
 ·rw [bf] at e
  split at e
  ·cases e;exact hn
  ·exact Heap.get?_push_of_some _ (r.own i a o' e)
 ·rw [bf] at e1 e2
  split at e1<;>split at e2
  ·lia
  ·cases e1;exact absurd (lt _ _ _ e2) (Nat.lt_irrefl _)
  ·cases e2;exact absurd (lt _ _ _ e1) (Nat.lt_irrefl _)
  ·exact r.apart i j a o1 o2 e1 e2
 ·rw [bf] at e
  split at e
  ·cases e;exact .inr (r.lowT n (Nat.le_refl _))
  ·exact r.off i a o' e
 ·refine Heap.get?_push_of_some _ (r.keep b o' e fun i a nF hi e2=>?_)
  refine q i a nF hi ?_
  rw [bf,if_neg (by have:=r.old;lia)]
  exact e2
 ·rw [bf] at e
  split at e
  ·cases e;exact r.start
  ·exact r.fresh i a o' hi e
 ·have:∀ l:Mm,aE (d7 l (n,o))=aE l+1:=by
   intro l
   induction l with
   | nil=>rfl
   | cons x l ih=>show Nat.succ (aE (d7 l (n,o)))=_;rw [ih];rfl
  rw [this];exact Nat.le_succ_of_le r.old
theorem ag.update (r:ag E h₀ Y m n h) {a:Addr}{f:Obj->Obj}(e:ad m i=some (a,o)) (hf:(f o).isFreed=false):
  (h.get? a).isSome=true/\ag E h₀ Y (cg m i (f o)) n (h.update a f):=by
 have ho:=r.own i a o e
 refine ⟨by rw [ho];rfl,?_⟩
 have hs:Heap.SameBut a h (h.update a f):=Heap.SameBut.update ..
 have ge:(h.update a f).get? a=some (f o):=Heap.get?_update_self f ho hf
 have gs:∀ j b o',ad (cg m i (f o)) j=some (b,o')->(j=i/\b=a/\o'=f o)∨(j≠i/\ad m j=some (b,o')):=by
  intro j b o' q
  rw [dg,e] at q
  split at q
  ·rename_i hj
   cases q
   exact .inl ⟨hj,rfl,rfl⟩
  ·rename_i hj
   exact .inr ⟨hj,q⟩
 refine ⟨by rw [hs.1,r.size],fun b o' q z=>?_,fun j b o' q=>?_,fun j1 j2 b o1 o2 q1 q2=>?_,fun j b o' q=>?_,fun b o' q z=>?_,r.start,fun j b o' hj q=>?_,?_,r.lowT⟩
 ·refine (hs.2 b ?_).trans (r.base b o' q z)
  rintro rfl
  rcases r.off i _ o e with x | x
  ·rw [x] at z;cases z
  ·rw [x] at q;cases q
 ·rcases gs j b o' q with ⟨rfl,rfl,rfl⟩ | ⟨hj,q⟩
  ·exact ge
  ·refine (hs.2 b ?_).trans (r.own j b o' q)
   rintro rfl
   exact hj (r.apart j i _ _ _ q e)
 ·rcases gs j1 b o1 q1 with ⟨Gw,oT,_⟩ | ⟨Gw,IN⟩<;>rcases gs j2 b o2 q2 with ⟨wl,Gx,_⟩ | ⟨wl,IO⟩
  ·exact Gw.trans wl.symm
  ·subst oT;subst Gw;exact r.apart _ j2 _ _ _ e IO
  ·subst Gx;subst wl;exact r.apart j1 _ _ _ _ IN e
  ·exact r.apart j1 j2 b o1 o2 IN IO
 ·rcases gs j b o' q with ⟨rfl,rfl,rfl⟩ | ⟨_,q⟩
  ·exact r.off j b o e
  ·exact r.off j b o' q
 ·have k:=r.keep b o' q fun j c nF hj q2=>by
   by_cases IP:j=i
   ·subst IP
    rw [e] at q2
    cases q2
    exact z j a (f o) hj (by rw [dg,if_pos rfl,e];rfl)
   ·exact z j c nF hj (by rw [dg,if_neg IP];exact q2)
  refine (hs.2 b ?_).trans k
  rintro rfl
  by_cases hi:i < Y
  ·exact z i b (f o) hi (by rw [dg,if_pos rfl,e];rfl) rfl
  ·exact absurd (Heap.lt_size q) (Nat.not_lt.mpr (r.fresh i b o (by lia) e))
 ·rcases gs j b o' q with ⟨rfl,rfl,rfl⟩ | ⟨_,q⟩
  ·exact r.fresh j b o hj e
  ·exact r.fresh j b o' hj q
 ·have:∀ (l:Mm) (i:Nat) (x:Addr×Obj),ad l i=some x->aE (cg l i (f o))=aE l:=by
   intro l
   induction l with
   | nil=>intro i x q;cases q
   | cons y l ih=>
    intro i x q
    cases i with
    | zero=>rfl
    | succ i=>show Nat.succ (aE (cg l i (f o)))=Nat.succ (aE l);rw [ih i x q]
  rw [this m i _ e];exact r.old
end
noncomputable def cu:List bC->List (bC->Prop)->Prop
 | [],[]=>True
 | a::A,e::es=>e a/\cu A es
 | _,_=>False
inductive dh:Type 1
 | nil
 | cons {X:Type}(x:X) (e:bC->Prop) (ans:X->bC->fz) (says:X->Prop) (rest:X->dh)
noncomputable def dh.Runs:dh->(List (bC->fz)->Out)->List (bC->Prop)->Prop
 | .nil,o,es=>(o []).L=(o []).R/\cu (o []).A es
 | .cons _ e ans _ rest,o,es=>∀ x,(rest x).Runs (fun l=>o (ans x::l)) (es++[e])
noncomputable def dh.Fin (F:eL->Prop):dh->(List (bC->fz)->Out)->Prop
 | .nil,o=>F (o []).c
 | .cons _ _ ans says rest,o=>∀ x,says x->(rest x).Fin F (fun l=>o (ans x::l))
section
variable {E:En}{h₀:Heap}{Y:Nat}{R:Result->Shared->Prop}{d:Drawn}{os:OsState}
noncomputable abbrev Mo (E:En):Model:=model E.prog E.w
noncomputable def Holds (E:En) (h₀:Heap) (Y:Nat) (d:Drawn) (os:OsState) {X:Type}(e:bC->Prop) (ans:X->bC->fz) (says:X->Prop):Prop:=
 ∀ (q:bC) (Q:Result->Shared->Prop) (h:Heap) (g:Array GenState),e q->q.Γ.code=q.code->E.G g->ag E h₀ Y q.m q.n h->
  (∀ x,says x->∀ h' g',E.G g'->ag E h₀ Y (ans x q).m (ans x q).n h'->wp (Mo E) q.Γ (ans x q).t (finPost (Mo E) q.Γ Q) (fun e _ s'=>Q (.error e) s') (ans x q).p ⟨h',g',d,(ans x q).tk,os⟩)->
  wpCode (Mo E) q.Γ Q q.p ⟨h,g,d,q.tk,os⟩
noncomputable def dh.Valid (E:En) (h₀:Heap) (Y:Nat) (d:Drawn) (os:OsState):dh->Prop
 | .nil=>True
 | .cons _ e ans says rest=>Holds E h₀ Y d os e ans says/\∀ x,says x->(rest x).Valid E h₀ Y d os
noncomputable def fQ (E:En) (h₀:Heap) (Y:Nat) (B:lw (Mo E) E.nb) (d:Drawn) (os:OsState) (c:eL):Prop:=
 ∀ h g,E.G g->ag E h₀ Y c.m c.n h->bP (Mo E) B c ⟨h,g,d,c.tk,os⟩
noncomputable def am (E:En) (h₀:Heap) (Y:Nat) (R:Result->Shared->Prop) (d:Drawn) (os:OsState) (c:eL):Prop:=
 ∀ h g,E.G g->ag E h₀ Y c.m c.n h->Wc (Mo E) R c ⟨h,g,d,c.tk,os⟩
noncomputable def lx (E:En) (h₀:Heap) (Y:Nat) (B:lw (Mo E) E.nb) (d:Drawn) (os:OsState) (ih:Ih):Prop:=
 ∀ (τ:dh) hs c,τ.Runs (fun as=>ih hs as c) []->τ.Valid E h₀ Y d os->τ.Fin (fQ E h₀ Y B d os) (fun as=>ih hs as c)->fQ E h₀ Y B d os c
theorem dh.runs_stop {c:eL}:∀ {τ:dh}{es:List (bC->Prop)},τ.Runs (fun _=>stop c) es->es=[]/\τ=.nil
 | .nil,[],_=>⟨rfl,rfl⟩
 | .nil,_::_,h=>(nomatch h.2)
 | .cons x e ans says rest,es,h=>by
  have z:=(dh.runs_stop (h x)).1
  simp at z
theorem dh.runs_tie {a b:Nat}:∀ {τ:dh}{o:List (bC->fz)->Out}{es:List (bC->Prop)},τ.Runs (fun l=>tie a b (o l)) es->a=b/\τ.Runs o es
 | .nil,o,es,h=>by
  have q:a::(o []).L=b::(o []).R:=h.1
  exact ⟨(List.cons.inj q).1,(List.cons.inj q).2,h.2⟩
 | .cons x e ans says rest,o,es,h=>⟨(dh.runs_tie (o:=fun l=>o (ans x::l)) (h x)).1,fun y=>(dh.runs_tie (o:=fun l=>o (ans y::l)) (h y)).2⟩
theorem dh.fin_tie {F:eL->Prop}{a b:Nat}:∀ {τ:dh}{o:List (bC->fz)->Out},τ.Fin F (fun l=>tie a b (o l))->τ.Fin F o
 | .nil,_,h=>h
 | .cons x e ans says rest,o,h=>fun y q=>dh.fin_tie (o:=fun l=>o (ans y::l)) (h y q)
theorem dh.runs_emit {a:bC}{e:bC->Prop}:∀ {τ:dh}{o:List (bC->fz)->Out}{es:List (bC->Prop)},τ.Runs (fun l=>wk a (o l)) (e::es)->e a/\τ.Runs o es
 | .nil,o,es,h=>⟨h.2.1,h.1,h.2.2⟩
 | .cons x e' ans says rest,o,es,h=>⟨(dh.runs_emit (o:=fun l=>o (ans x::l)) (h x)).1,fun y=>(dh.runs_emit (o:=fun l=>o (ans y::l)) (h y)).2⟩
theorem dh.fin_emit {F:eL->Prop}{a:bC}:∀ {τ:dh}{o:List (bC->fz)->Out},τ.Fin F (fun l=>wk a (o l))->τ.Fin F o
 | .nil,_,h=>h
 | .cons x e ans says rest,o,h=>fun y q=>dh.fin_emit (o:=fun l=>o (ans y::l)) (h y q)
theorem dh.fin_stop {F:eL->Prop}{c:eL}{τ:dh}{es:List (bC->Prop)}(h:τ.Runs (fun _=>stop c) es) (f:τ.Fin F (fun _=>stop c)):F c:=by
 obtain ⟨_,rfl⟩:=dh.runs_stop h
 exact f
section
variable {M:Model}{nb:Bool}{B:lw M nb}{Γ:Ctx}{p:Pos}{κ:List Fm}{m m':Mm}{n n' tk aF:Nat}{s:Shared}
theorem bP.rule {Dy:String}{k:Unit->Sem Fin}(h:bP M B ⟨Γ,p,κ,k (),m,n,tk⟩ s):bP M B ⟨Γ,p,κ,.rule Dy k,m',n',aF⟩ s:=by cases κ with | nil=>exact B.rule h | cons _ _=>exact h
theorem bP.point {l:List Value}{k:Unit->Sem Fin}(h:bP M B ⟨Γ,p,κ,k (),m,n,tk⟩ s):bP M B ⟨Γ,p,κ,.point l k,m',n',aF⟩ s:=by cases κ with | nil=>exact B.point h | cons _ _=>exact h
theorem bP.at_ {k:Unit->Sem Fin}(h:bP M B ⟨Γ,q,κ,k (),m,n,tk⟩ s):bP M B ⟨Γ,p,κ,.at q k,m',n',aF⟩ s:=by cases κ with | nil=>exact B.at_ h | cons _ _=>exact h
theorem bP.ask {k:Setting->Sem Fin}(h:bP M B ⟨Γ,p,κ,k ⟨M.prog,M.w.params⟩,m,n,tk⟩ s):bP M B ⟨Γ,p,κ,.ask k,m',n',aF⟩ s:=by cases κ with | nil=>exact B.ask h | cons _ _=>exact h
theorem bP.fresh {k:Tok->Sem Fin}(h:bP M B ⟨Γ,p,κ,k s.toks,m,n,tk⟩ {s with toks:=s.toks+1}):bP M B ⟨Γ,p,κ,.fresh k,m',n',aF⟩ s:=by cases κ with | nil=>exact B.fresh h | cons _ _=>exact h
theorem bP.handled {k:Option Value->Sem Fin}(h:bP M B ⟨Γ,p,κ,k (if own then Γ.own else Γ.handled),m,n,tk⟩ s):bP M B ⟨Γ,p,κ,.handled own k,m',n',aF⟩ s:=by cases κ with | nil=>exact B.handled h | cons _ _=>exact h
theorem bP.stack {k:List (Code×Pos)->Sem Fin}(h:bP M B ⟨Γ,p,κ,k ((Γ.code,p)::Γ.below),m,n,tk⟩ s):bP M B ⟨Γ,p,κ,.stack k,m',n',aF⟩ s:=by cases κ with | nil=>exact B.stack h | cons _ _=>exact h
theorem bP.thread {k:Nat->Sem Fin}(h:bP M B ⟨Γ,p,κ,k 0,m,n,tk⟩ s):bP M B ⟨Γ,p,κ,.thread k,m',n',aF⟩ s:=by cases κ with | nil=>exact B.thread h | cons _ _=>exact h
theorem bP.load {a:Addr}{k:Obj->Sem Fin}(e:s.heap.get? a=some o) (h:bP M B ⟨Γ,p,κ,k o,m,n,tk⟩ s):bP M B ⟨Γ,p,κ,.load a kj k,m',n',aF⟩ s:=by cases κ with | nil=>exact B.load e h | cons _ _=>exact ⟨o,e,h⟩
theorem bP.loadIfAlive {a:Addr}{k:Option Obj->Sem Fin}{o:Option Obj}(e:s.heap.get? a=o) (h:bP M B ⟨Γ,p,κ,k o,m,n,tk⟩ s):bP M B ⟨Γ,p,κ,.loadIfAlive a k,m',n',aF⟩ s:=by subst e;cases κ with | nil=>exact B.loadIfAlive h | cons _ _=>exact h
theorem bP.update {a:Addr}{f:Obj->Obj}{k:Unit->Sem Fin}(e:(s.heap.get? a).isSome=true) (h:bP M B ⟨Γ,p,κ,k (),m,n,tk⟩ {s with heap:=s.heap.update a f}):bP M B ⟨Γ,p,κ,.update a kj f k,m',n',aF⟩ s:=by cases κ with | nil=>exact B.update e h | cons _ _=>exact ⟨e,h⟩
theorem bP.alloc {k:Addr->Sem Fin}(e:s.heap.objs.size=a) (h:bP M B ⟨Γ,p,κ,k a,m,n,tk⟩ {s with heap:=s.heap.push o}):bP M B ⟨Γ,p,κ,.alloc o k,m',n',aF⟩ s:=by subst e;cases κ with | nil=>exact B.alloc h | cons _ _=>exact h
theorem bP.genState {st:GenState}{k:GenStatus×Option (List (Code×Pos))->Sem Fin}{z:GenStatus×Option (List (Code×Pos))}(e:s.gens[g]?=some st) (ez:st.seen=z) (h:bP M B ⟨Γ,p,κ,k z,m,n,tk⟩ s):bP M B ⟨Γ,p,κ,.genState g k,m',n',aF⟩ s:=by subst ez;cases κ with | nil=>exact B.genState e h | cons _ _=>exact ⟨st,e,h⟩
theorem bP.call {c:Code}{l:List Value}{k:Result->Sem Fin}(h:wpCode M (Γ.enter c hd p) (mW M B ⟨Γ,p,k⟩ κ) p s):bP M B ⟨Γ,p,κ,.call c hd gd l k,m',n',aF⟩ s:=by
 cases κ with
 | nil=>exact B.call h
 | cons _ _=>exact h
theorem bP.again {c:Code}(q:c.quiet=true) (h:bP M B ⟨Γ.goto c,p,κ,M.den c,m,n,tk⟩ s):bP M B ⟨Γ,p,κ,.pure (.again c),m',n',aF⟩ s:=by
 cases κ with
 | nil=>exact B.again q h
 | cons _ _=>exact ⟨q,(wpCode_iff_wp _ _ _ _ _).mpr h⟩
end
noncomputable def Ok (E:En) (h₀:Heap) (Y:Nat) (B:lw (Mo E) E.nb) (d:Drawn) (os:OsState) (o:List (bC->fz)->Out) (c:eL):Prop:=
 ∀ τ:dh,τ.Runs o []->τ.Valid E h₀ Y d os->τ.Fin (fQ E h₀ Y B d os) o->fQ E h₀ Y B d os c
section
variable {B:lw (Mo E) E.nb}{ih:Ih}{o:List (bC->fz)->Out}{c c':eL}
theorem Ok.stop:Ok E h₀ Y B d os (fun _=>stop c) c:=fun _ hL _ hc=>dh.fin_stop hL hc
theorem Ok.map (h:Ok E h₀ Y B d os o c') (f:fQ E h₀ Y B d os c'->fQ E h₀ Y B d os c):Ok E h₀ Y B d os o c:=fun τ hL hv hc=>f (h τ hL hv hc)
theorem Ok.tie (h:a=b->Ok E h₀ Y B d os o c):Ok E h₀ Y B d os (fun l=>tie a b (o l)) c:=fun τ hL hv hc=>h (dh.runs_tie hL).1 τ (dh.runs_tie hL).2 hv (dh.fin_tie hc)
variable (IH:lx E h₀ Y B d os ih)
include IH
theorem lx.ok (hs:List Nat) (c:eL):Ok E h₀ Y B d os (fun as=>ih hs as c) c:=fun τ=>IH τ hs c
theorem Ok.pop {r:Result}{κ:List Fm}:Ok E h₀ Y B d os (fun as=>Mine.pop ih hs as r ⟨Γ,p,κ,leafOf r,m,n,tk⟩) ⟨Γ,p,κ,leafOf r,m,n,tk⟩:=by
 cases κ with
 | nil=>exact .stop
 | cons f κ=>
  refine (IH.ok hs ⟨f.Γ,f.p,κ,f.k r,m,n,tk⟩).map fun z h g hg hr=>?_
  have z:=z h g hg hr
  cases κ with
  | nil=>cases r<;>exact z
  | cons f' κ=>cases r<;>exact z
theorem Ok.ask {q:bC}{f:Fm}{κ:List Fm}(hq:q.Γ.code=q.code)
  (F:(∀ h g,E.G g->ag E h₀ Y q.m q.n h->wpCode (Mo E) q.Γ (mW (Mo E) B f κ) q.p ⟨h,g,d,q.tk,os⟩)->fQ E h₀ Y B d os c):
  Ok E h₀ Y B d os (fun as=>match as with | []=>Mine.stop c | a::iQ=>sF ih a iQ q (f::κ)) c:=by
 intro τ hL hv hc
 cases τ with
 | nil=>exact hc
 | cons x e ans says rest=>
  exact F fun h g hg hr=>hv.1 q _ h g (dh.runs_emit (o:=fun l=>ih (ans x q).hs l ⟨q.Γ,(ans x q).p,f::κ,(ans x q).t,(ans x q).m,(ans x q).n,(ans x q).tk⟩) (hL x)).1 hq hg hr fun y sy h' g' bQ aJ=>
   IH (rest y) (ans y q).hs ⟨q.Γ,(ans y q).p,f::κ,(ans y q).t,(ans y q).m,(ans y q).n,(ans y q).tk⟩
    (dh.runs_emit (a:=q) (e:=e) (o:=fun l=>ih (ans y q).hs l ⟨q.Γ,(ans y q).p,f::κ,(ans y q).t,(ans y q).m,(ans y q).n,(ans y q).tk⟩) (hL y)).2 (hv.2 y sy)
    (dh.fin_emit (a:=q) (o:=fun l=>ih (ans y q).hs l ⟨q.Γ,(ans y q).p,f::κ,(ans y q).t,(ans y q).m,(ans y q).n,(ans y q).tk⟩) (hc y sy)) h' g' bQ aJ
theorem Ok.again {κ:List Fm}{c':Code}:Ok E h₀ Y B d os (fun as=>nE E ih (x::hs) as ⟨Γ,p,κ,.pure (.again c'),m,n,tk⟩) ⟨Γ,p,κ,.pure (.again c'),m,n,tk⟩:=by
 cases x with
 | zero=>
  show Ok E h₀ Y B d os (fun as=>match c'.quiet with
   | true=>ih hs as ⟨Γ.goto c',p,κ,den c',m,n,tk⟩
   | false=>Mine.stop _) _
  cases q:c'.quiet with
  | false=>exact .stop
  | true=>
   refine (IH.ok hs _).map fun z h g hg hr=>?_
   have z:=z h g hg hr
   rw [iE] at z
   exact bP.again q z
 | succ y=>
  show Ok E h₀ Y B d os (fun as=>match c'.quiet with
   | true=>match y with
    | 0=>match κ with
     | []=>Mine.stop _
     | _::_=>match as with
      | []=>Mine.stop _
      | a::iQ=>sF ih a iQ ⟨Γ.goto c',c',p,m,n,tk⟩ κ
    | y+1=>match y with
     | 0=>match Dx (k9 κ) E.nb with
      | true=>match mV E c' with
       | some t=>ih hs as ⟨Γ.goto c',p,κ,t,m,n,tk⟩
       | none=>Mine.stop _
      | false=>Mine.stop _
     | _+1=>Mine.stop _
   | false=>Mine.stop _) _
  cases q:c'.quiet with
  | false=>exact .stop
  | true=>
   cases y with
   | zero=>
    cases κ with
    | nil=>exact .stop
    | cons f κ=>exact Ok.ask IH (q:=⟨Γ.goto c',c',p,m,n,tk⟩) rfl fun z h g hg hr=>⟨q,z h g hg hr⟩
   | succ y=>
    cases y with
    | succ _=>exact .stop
    | zero=>
     show Ok E h₀ Y B d os (fun as=>match Dx (k9 κ) E.nb with
      | true=>match mV E c' with
       | some t=>ih hs as ⟨Γ.goto c',p,κ,t,m,n,tk⟩
       | none=>Mine.stop _
      | false=>Mine.stop _) _
     cases q3:Dx (k9 κ) E.nb with
     | false=>exact .stop
     | true=>
      cases q2:mV E c' with
      | none=>exact .stop
      | some t=>
       refine (IH.ok hs _).map fun z h g hg hr=>?_
       have z:=z h g hg hr
       cases κ with
       | nil=>exact B.sup q3 q (fun Q X hw=>kl (Γ:=Γ.goto c') q2 hw) z
       | cons f κ=>exact ⟨q,(wpCode_iff_wp _ _ _ _ _).mpr (kl (Γ:=Γ.goto c') q2 z)⟩
theorem Ok.obj {C:Obj->eL}(F:∀ o,(∀ h,ag E h₀ Y m (C o).n h->h.get? a=some o)->(C o).m=m->fQ E h₀ Y B d os (C o)->fQ E h₀ Y B d os c) (hm:∀ o,(C o).m=m):
  Ok E h₀ Y B d os (fun as=>match x with
   | 0=>match gL a E.mu with
    | true=>Mine.stop c
    | false=>match E.T.get a with
     | some o=>ih hs as (C o)
     | none=>Mine.stop c
   | i+1=>match ad m i with
    | some x=>Mine.tie a x.1 (ih hs as (C x.2))
    | none=>Mine.stop c) c:=by
 cases x with
 | zero=>
  show Ok E h₀ Y B d os (fun as=>match gL a E.mu with
    | true=>Mine.stop c
    | false=>match E.T.get a with
     | some o=>ih hs as (C o)
     | none=>Mine.stop c) c
  cases q:gL a E.mu with
  | true=>exact .stop
  | false=>
   cases q2:E.T.get a with
   | none=>exact .stop
   | some o=>exact (IH.ok hs _).map (F o (fun h hr=>hr.base a o q2 q) (hm o))
 | succ i=>
  show Ok E h₀ Y B d os (fun as=>match ad m i with
    | some x=>Mine.tie a x.1 (ih hs as (C x.2))
    | none=>Mine.stop c) c
  cases q:ad m i with
  | none=>exact .stop
  | some x=>
   refine .tie fun e=>?_
   subst e
   exact (IH.ok hs _).map (F x.2 (fun h hr=>hr.own i x.1 x.2 q) (hm _))
end
theorem oU {B:lw (Mo E) E.nb}{ih:Ih}(IH:lx E h₀ Y B d os ih):lx E h₀ Y B d os (nE E ih):=by
 intro τ hs c
 suffices h:Ok E h₀ Y B d os (fun as=>nE E ih hs as c) c from h τ
 clear τ
 obtain ⟨Γ,p,κ,t,m,n,tk⟩:=c
 cases t with
 | pure fin=>
  cases fin with
  | done f=>exact Ok.pop IH (r:=.ok f)
  | again c'=>
   cases hs with
   | nil=>exact .stop
   | cons x cB=>exact Ok.again IH
 | raise e=>exact Ok.pop IH (r:=.error e)
 | rule Dy k=>exact (IH.ok hs _).map fun z h g hg hr=>bP.rule (z h g hg hr)
 | point l k=>exact (IH.ok hs _).map fun z h g hg hr=>bP.point (z h g hg hr)
 | «at» q k=>exact (IH.ok hs _).map fun z h g hg hr=>bP.at_ (z h g hg hr)
 | ask k=>exact (IH.ok hs _).map fun z h g hg hr=>bP.ask (z h g hg hr)
 | fresh k=>exact (IH.ok hs _).map fun z h g hg hr=>bP.fresh (z h g hg hr)
 | handled own k=>cases own<;>exact (IH.ok hs _).map fun z h g hg hr=>bP.handled (z h g hg hr)
 | stack k=>exact (IH.ok hs _).map fun z h g hg hr=>bP.stack (z h g hg hr)
 | thread k=>exact (IH.ok hs _).map fun z h g hg hr=>bP.thread (z h g hg hr)
 | load a kj k=>
  cases hs with
  | nil=>exact .stop
  | cons x cB=>exact Ok.obj IH (C:=fun o=>⟨Γ,p,κ,k o,m,n,tk⟩) (fun o ho _ z h g hg hr=>bP.load (ho h hr) (z h g hg hr)) fun _=>rfl
 | loadIfAlive a k=>
  cases hs with
  | nil=>exact .stop
  | cons x cB=>exact Ok.obj IH (C:=fun o=>⟨Γ,p,κ,k (some o),m,n,tk⟩) (fun o ho _ z h g hg hr=>bP.loadIfAlive (ho h hr) (z h g hg hr)) fun _=>rfl
 | update a kj f k=>
  cases hs with
  | nil=>exact .stop
  | cons x cB=>
   cases x with
   | zero=>exact .stop
   | succ i=>
    show Ok E h₀ Y B d os (fun as=>match ad m i with
     | some x=>match (f x.2).isFreed with
      | false=>tie a x.1 (ih cB as ⟨Γ,p,κ,k (),cg m i (f x.2),n,tk⟩)
      | true=>stop _
     | none=>stop _) _
    cases q:ad m i with
    | none=>exact .stop
    | some x=>
     show Ok E h₀ Y B d os (fun as=>match (f x.2).isFreed with
      | false=>tie a x.1 (ih cB as ⟨Γ,p,κ,k (),cg m i (f x.2),n,tk⟩)
      | true=>stop _) _
     cases q2:(f x.2).isFreed with
     | true=>exact .stop
     | false=>
      refine .tie fun e=>?_
      subst e
      refine (IH.ok cB _).map fun z h g hg hr=>?_
      obtain ⟨u,r'⟩:=hr.update q q2
      exact bP.update u (z _ g hg r')
 | alloc o k=>
  show Ok E h₀ Y B d os (fun as=>match o.isFreed with
   | false=>ih hs as ⟨Γ,p,κ,k n,d7 m (n,o),n+1,tk⟩
   | true=>stop _) _
  cases q:o.isFreed with
  | true=>exact .stop
  | false=>exact (IH.ok hs _).map fun z h g hg hr=>bP.alloc hr.size (z _ g hg (hr.push q))
 | call c' hd gd l k=>
  cases hs with
  | nil=>exact .stop
  | cons x cB=>
   cases x with
   | succ _=>exact Ok.ask IH (q:=⟨Γ.enter c' hd p,c',p,m,n,tk⟩) (f:=⟨Γ,p,k⟩) rfl fun z h g hg hr=>bP.call (z h g hg hr)
   | zero=>
    refine (IH.ok cB ⟨Γ.enter c' hd p,p,⟨Γ,p,k⟩::κ,den c',m,n,tk⟩).map fun z h g hg hr=>?_
    have z:=z h g hg hr
    refine bP.call ?_
    refine (wpCode_iff_wp _ _ _ _ _).mpr ?_
    rw [iE] at z
    exact z
 | genState g k=>
  show Ok E h₀ Y B d os (fun as=>match E.gs with
   | some x=>tie g x.1 (ih hs as ⟨Γ,p,κ,k x.2,m,n,tk⟩)
   | none=>stop _) _
  cases q:E.gs with
  | none=>exact .stop
  | some x=>
   refine .tie fun e=>?_
   subst e
   refine (IH.ok hs _).map fun z h ga hg hr=>?_
   obtain ⟨st,e1,e2⟩:=E.hgs x q ga hg
   exact bP.genState e1 e2 (z h ga hg hr)
 | _=>exact .stop
theorem kn (fuel:Nat) {B:lw (Mo E) E.nb}:lx E h₀ Y B d os (dH E fuel):=by
 induction fuel with
 | zero=>exact fun τ hs c hL hv hc=>dh.fin_stop hL hc
 | succ n ih=>exact oU ih
theorem dj (eg:E.nb=true) (fuel:Nat) (τ:dh) (hs:List Nat) (c:eL) (h1:τ.Runs (fun as=>dH E fuel hs as c) []) (h2:τ.Valid E h₀ Y d os) (h3:τ.Fin (am E h₀ Y R d os) (fun as=>dH E fuel hs as c)):am E h₀ Y R d os c:=by
 obtain ⟨prog,w,T,mu,G,nb,gs,hgs⟩:=E
 cases eg
 exact kn (E:=⟨prog,w,T,mu,G,true,gs,hgs⟩) (B:=Ft _ true R) fuel τ hs c h1 h2 h3
end
end
theorem mX:∀ (l:Mm) (i:Nat) (o:Obj),aE (cg l i o)=aE l
 | [],_,_=>rfl
 | _::_,0,_=>rfl
 | _::r,i+1,o=>congrArg Nat.succ (mX r i o)
theorem jV:∀ (l:Mm) (y:Addr×Obj),aE (d7 l y)=aE l+1
 | [],_=>rfl
 | _::r,y=>congrArg Nat.succ (jV r y)
theorem jr:∀ (l:Mm) (i:Nat),i < aE l->∃ x,ad l i=some x
 | [],_,h=>absurd h (Nat.not_lt_zero _)
 | x::_,0,_=>⟨x,rfl⟩
 | _::r,i+1,h=>jr r i (Nat.lt_of_succ_lt_succ h)
noncomputable def sel (m:Mm):List Nat->Mm
 | []=>[]
 | i::is=>match ad m i with
  | some x=>x::sel m is
  | none=>sel m is
theorem im {m:Mm}:∀ {is:List Nat},(∀ i∈is,i < aE m)->∀ j,ad (sel m is) j=(is[j]?).bind (ad m)
 | [],_,j=>rfl
 | i::is,hv,j=>by
  obtain ⟨x,hx⟩:=jr m i (hv i (.head _))
  have e:sel m (i::is)=x::sel m is:=by show (match ad m i with | some x=>x::sel m is | none=>sel m is)=_;rw [hx]
  rw [e]
  cases j with
  | zero=>show some x=ad m i;exact hx.symm
  | succ j=>show ad (sel m is) j=_;rw [im (fun k q=>hv k (.tail _ q)) j];rfl
theorem jt {m:Mm}:∀ {is:List Nat},(∀ i∈is,i < aE m)->aE (sel m is)=is.length
 | [],_=>rfl
 | i::is,hv=>by
  obtain ⟨x,hx⟩:=jr m i (hv i (.head _))
  have e:sel m (i::is)=x::sel m is:=by show (match ad m i with | some x=>x::sel m is | none=>sel m is)=_;rw [hx]
  rw [e];exact congrArg Nat.succ (jt (fun k q=>hv k (.tail _ q)))
section
variable {E:En}{h₀:Heap}{Y:Nat}{m:Mm}{n:Nat}{h:Heap}
theorem ag.lt (r:ag E h₀ Y m n h) {i:Nat}{a:Addr}{o:Obj}(e:ad m i=some (a,o)):a < n:=r.size▸Heap.lt_size (r.own i a o e)
theorem ag.sub (r:ag E h₀ Y m n h) (is:List Nat) (hv:∀ i∈is,i < aE m) (nd:is.Nodup):ag E h is.length (sel m is) n h:=by
 have get:∀ j x,ad (sel m is) j=some x->∃ i,is[j]?=some i/\ad m i=some x:=by
  intro j x e
  rw [im hv] at e
  cases q:is[j]? with
  | none=>rw [q] at e;cases e
  | some i=>rw [q] at e;exact ⟨i,rfl,e⟩
 refine ⟨r.size,r.base,fun i a o e=>?_,fun i j a o o' e e'=>?_,fun i a o e=>?_,fun b o e _=>e,by rw [r.size];exact Nat.le_refl _,fun i a o hi e=>?_,by rw [jt hv];exact Nat.le_refl _,r.lowT⟩
 ·obtain ⟨k,_,e⟩:=get i _ e
  exact r.own k a o e
 ·obtain ⟨k,q,e⟩:=get i _ e
  obtain ⟨k',q',e'⟩:=get j _ e'
  have:=r.apart k k' a o o' e e'
  subst this
  have hi:i < is.length:=(List.getElem?_eq_some_iff.mp q).1
  exact (List.getElem?_inj hi nd).mp (q.trans q'.symm)
 ·obtain ⟨k,_,e⟩:=get i _ e
  exact r.off k a o e
 ·have:=gr _ _ _ e
  rw [jt hv] at this
  lia
theorem ag.know (r:ag E h₀ Y m n h) {b:Addr}{o:Obj}(e:h.get? b=some o) (hb:h₀.objs.size<=b) (hm:∀ i o',ad m i≠some (b,o')) (ht:E.T.get b=none):ag E h₀ Y (d7 m (b,o)) n h:=by
 refine ⟨r.size,r.base,fun i a o' q=>?_,fun i j a o1 o2 q1 q2=>?_,fun i a o' q=>?_,fun c o' q z=>r.keep c o' q fun i a nF hi g=>z i a nF hi ?_,r.start,fun i a o' hi q=>?_,by rw [jV];exact Nat.le_succ_of_le r.old,r.lowT⟩
 ·rw [bf] at q
  split at q
  ·cases q;exact e
  ·exact r.own i a o' q
 ·rw [bf] at q1 q2
  split at q1<;>split at q2
  ·lia
  ·cases q1;exact absurd q2 (hm j o2)
  ·cases q2;exact absurd q1 (hm i o1)
  ·exact r.apart i j a o1 o2 q1 q2
 ·rw [bf] at q
  split at q
  ·cases q;exact .inr ht
  ·exact r.off i a o' q
 ·rw [bf,if_neg (by have:=r.old;lia)];exact g
 ·rw [bf] at q
  split at q
  ·cases q;exact hb
  ·exact r.fresh i a o' hi q
end
noncomputable def io (l:List bC):Nat->bC:=
 @List.rec bC (fun _=>Nat->bC) (fun _=>⟨⟨.block [] default,none,none,[],none⟩,.block [] default,default,[],0,0⟩) (fun x _ ih i=>@Nat.rec (fun _=>bC) x (fun j _=>ih j) i) l
inductive gt
 | done (f:Flow)
 | raise (e:Value)
 | again (c:Code)
 | other
inductive mY:Sem Fin->gt->Prop
 | done (f:Flow):mY (.pure (.done f)) (.done f)
 | again (c:Code):mY (.pure (.again c)) (.again c)
 | raise (e:Value):mY (.raise e) (.raise e)
 | other (t:Sem Fin):mY t .other
noncomputable def Fu:(t:Sem Fin)->{g:gt // mY t g}
 | .pure (.done f)=>⟨.done f,.done f⟩
 | .pure (.again c)=>⟨.again c,.again c⟩
 | .raise e=>⟨.raise e,.raise e⟩
 | t=>⟨.other,.other t⟩
noncomputable def iY (t:Sem Fin):gt:=(Fu t).1
theorem nG {t:Sem Fin}{g:gt}(h:iY t=g):mY t g:=h▸(Fu t).2
theorem IL {t:Sem Fin}{f:Flow}(h:iY t=.done f):t=.pure (.done f):=by
 cases nG h;rfl
theorem Gy {t:Sem Fin}{c:Code}(h:iY t=.again c):t=.pure (.again c):=by
 cases nG h;rfl
theorem Gz {t:Sem Fin}{e:Value}(h:iY t=.raise e):t=.raise e:=by
 cases nG h;rfl
theorem wm {Γ Δ:Ctx}(h:Γ.goto default=Δ.goto default) (x:Code):Γ.goto x=Δ.goto x:=by
 obtain ⟨a,b,c,d,e⟩:=Γ
 obtain ⟨a',b',c',d',e'⟩:=Δ
 simp only [Ctx.goto,Ctx.mk.injEq,true_and] at h ⊢
 exact h
section
variable {E:En}{h₀:Heap}{Y:Nat}{R:Result->Shared->Prop}{d:Drawn}{os:OsState}
theorem aD {Γ:Ctx}{p:Pos}{m:Mm}{n tk:Nat}{h:Heap}{g:Array GenState}(hg:E.G g) (hr:ag E h₀ Y m n h)
  (w:am E h₀ Y R d os ⟨Γ,p,[],den Γ.code,m,n,tk⟩):wpCode (Mo E) Γ R p ⟨h,g,d,tk,os⟩:=by
 refine (wpCode_iff_wp _ _ _ _ _).mpr ?_
 have z:=w h g hg hr
 rw [dO] at z
 rw [iE] at z
 exact z
end
section
open PySem PySem.W PySem.W.X PySem.Calls PyProof.Rows
noncomputable abbrev uk:Ctx:=⟨.builtin "claim.caller" {},none,none,[],none⟩
noncomputable def ip (name : Str) (vs : List Value) : Sem Fin := do
  match <- nsGet mainNs name with
  | some f => do ret (<- PySem.call f vs)
  | none => unsupported "claim.caller:no-such-global"
structure ly (bF:Shared) (r:Result) (s':Shared):Prop where
 val:r=.ok (.ret (.bool true))
 old:OldK bF.heap s'.heap
 os:s'.os=bF.os
 bare:AllBare s'.gens
noncomputable def cU (x:Int×Tok):Value:=.int x.1 x.2
noncomputable def fh (aX:List Value):Obj:={cls:=.type "list",data:=.seq aX.toArray}
theorem oV {l:OpenLaw}(hm:l.most=some 63) (lz:l.bound=none) {w:World}{s₀ bF:Shared}{args:List WData}{vs:List Value}{as:List Addr}
  (hJ:l.row.claim.pre args=true) (mZ:WData.layableAll args=true) (L:Laid [] w s₀ bF args vs as) (wn:sysModules < s₀.heap.objs.size):
  ∃ aX:List (Int×Tok),aX.length<=63/\vs=[.ref s₀.heap.objs.size]/\bF.heap.get? s₀.heap.objs.size=some (fh (aX.map cU))/\bF.heap.objs.size=s₀.heap.objs.size+1/\s₀.toks<=bF.toks:=by
 have GA:=L.reads
 have LM:=L.well
 have LO:=L.low wn
 have hJ:(WShape.hasAll [] args [.list .int]&&l.pre.holds [] {args:=args})=true:=hJ
 unfold OpenLaw.pre at hJ
 rw [hm,lz] at hJ
 dsimp only at hJ
 have LP:=(Bool.and_eq_true_iff.mp hJ).1
 have GB:=(Bool.and_eq_true_iff.mp hJ).2
 wrow_hasAll LP mZ
 wrow_readAll GA LM LO
 w_cond GB
 rename_i ns _ _ _ _ _ _ _ _ a vs _ hL _ _ _ hI _ hc _
 obtain ⟨v7,aG⟩:=script_at L
 have ho:=script_obj L hL
 subst v7
 have z:∀ (vs:List Value) (ns:List Int),IntsAre vs ns->∃ aX:List (Int×Tok),aX.length=ns.length/\vs=aX.map cU:=by
  intro vs ns h
  induction h with
  | nil=>exact ⟨[],rfl,rfl⟩
  | cons n t _ ih=>
   obtain ⟨aX,h1,h2⟩:=ih
   exact ⟨(n,t)::aX,by rw [List.length_cons,List.length_cons,h1],by rw [h2];rfl⟩
 obtain ⟨aX,h1,h2⟩:=z _ _ hI
 refine ⟨aX,by rw [h1];lia,rfl,?_,aG,script_toks L rfl⟩
 rw [ho,h2];rfl
noncomputable def nH:List Nat->Bool
 | []=>true
 | a::l=>(l.all fun b=>!Nat.beq a b)&&nH l
theorem gu:∀ (m:Mm) (i:Nat) (x:Addr×Obj),ad m i=some x->x∈m
 | [],_,_,h=>nomatch h
 | y::_,0,x,h=>by cases (show some y=some x from h);exact .head _
 | _::r,i+1,x,h=>.tail _ (gu r i x h)
theorem m3:∀ (m:Mm),nH (m.map (·.1))=true->∀ i j a o o',ad m i=some (a,o)->ad m j=some (a,o')->i=j
 | [],_,_,_,_,_,_,h,_=>nomatch h
 | x::m,e,0,0,_,_,_,_,_=>rfl
 | x::m,e,0,j+1,a,o,o',h1,h2=>by
  have e1:=(Bool.and_eq_true_iff.mp e).1
  cases (show some x=some (a,o) from h1)
  have:=List.all_eq_true.mp e1 a (List.mem_map_of_mem (f:=(·.1)) (gu m j _ h2))
  simp at this
 | x::m,e,i+1,0,a,o,o',h1,h2=>by
  have e1:=(Bool.and_eq_true_iff.mp e).1
  cases (show some x=some (a,o') from h2)
  have:=List.all_eq_true.mp e1 a (List.mem_map_of_mem (f:=(·.1)) (gu m i _ h1))
  simp at this
 | x::m,e,i+1,j+1,a,o,o',h1,h2=>congrArg (·+1) (m3 m (Bool.and_eq_true_iff.mp e).2 i j a o o' h1 h2)
theorem lD:∀ m:Mm,aE m=m.length
 | []=>rfl
 | _::m=>congrArg (·+1) (lD m)
structure rc (h:Heap) (os:OsState) (r:Result) (s':Shared):Prop where
 val:r=.ok (.ret (.bool true))
 old:OldK h s'.heap
 os:s'.os=os
 bare:AllBare s'.gens
end
noncomputable def fj (target : Expr) (it v : Value) (body aW : List Stmt) (env : Env) : Sem Fin :=
  (do letOwnedTupleGo target it v
      assign target env v
      match <- execs body env with
      | .next | .cont => again (.forLoop target it body aW env)
      | .brk => pure (.done .next)
      | .ret v => pure (.done (.ret v)) : Sem Fin).onRaise (fun x => do noteFrame x env; theTreesLotGoes x)
theorem ju {M : Model} {Γ : Ctx} {target : Expr} {it : Value} {body aW : List Stmt} {env : Env} {Q : Fin -> Pos -> Shared -> Prop} {E : Value -> Pos -> Shared -> Prop} {p : Pos} {s : Shared}
    (h : wp M Γ (pyNext it) (fun o p s => match o with
      | none => Q (.again (.block aW env)) p s
      | some v => wp M Γ (fj target it v body aW env) Q E p s) (fun _ _ _ => False) target.pos s) :
    wp M Γ (denote table (.forLoop target it body aW env)) Q E p s := by
  show wp M Γ ((forTurn target it body aW env).onRaise (fun x => do noteFrame x env; theTreesLotGoes x)) Q E p s
  unfold forTurn
  simp only [Sem.wp_onRaise, Sem.wp_bind', Sem.wp_cmd_standAt]
  refine Sem.wp_mono M Γ _ (fun o p' s' h => ?_) (fun _ _ _ h => h.elim) _ _ h
  cases o with
  | none => exact h
  | some v =>
    unfold fj at h
    simp only [Sem.wp_onRaise, Sem.wp_bind'] at h ⊢
    exact h
noncomputable def gv (target : Expr) (it v : Value) (body aW : List Stmt) (env : Env) : Sem Fin :=
  (do assign target env v
      match <- execs body env with
      | .next | .cont => again (.forLoop target it body aW env)
      | .brk => pure (.done .next)
      | .ret v => pure (.done (.ret v)) : Sem Fin).onRaise (fun x => do noteFrame x env; theTreesLotGoes x)
theorem gc {M:Model}{Γ:Ctx}{target:Expr}{it v:Value}{body aW:List Stmt}{env:Env}{Q:Fin->Pos->Shared->Prop}{E:Value->Pos->Shared->Prop}{p:Pos}{s:Shared}
  (h:wp M Γ (letOwnedTupleGo target it v) (fun _ p s=>wp M Γ (gv target it v body aW env) Q E p s) (fun _ _ _=>False) p s):
  wp M Γ (fj target it v body aW env) Q E p s:=by
 unfold fj
 unfold gv at h
 simp only [Sem.wp_onRaise,Sem.wp_bind'] at h ⊢
 exact Sem.wp_mono M Γ _ (fun _ p' s' h=>h) (fun _ _ _ h=>h.elim) _ _ h
noncomputable def eZ (target:Expr) (it v:Value) (body aW:List Stmt) (env:Env):Sem Fin:=
 R.onRaiseR (R.bindR (Fast.tw17772580674575903948 target env v) fun _=>R.bindR (Fast.tw12563942051412417395 body env) fun fl=>
  match fl with
  | .next | .cont=>.pure (.again (.forLoop target it body aW env))
  | .brk=>.pure (.done .next)
  | .ret v=>.pure (.done (.ret v))) fun x=>R.bindR (Fast.tw17872113653443481271 x env) fun _=>Fast.tw1623429502029203251 x
theorem ev:gv=eZ:=by
 funext target it v body aW env
 unfold gv eZ
 rw [<- R.bindR_eq,<- R.onRaiseR_eq,<- Fast.te17772580674575903948,<- Fast.te12563942051412417395,<- Fast.te17872113653443481271,<- Fast.te1623429502029203251]
 rfl
noncomputable def gw (e gx : Expr) (g : Comprehension) (it aA v : Value) (env : Env) : Sem Fin :=
  (do letOwnedTupleGo g.target it v
      assign g.target env v
      let mut ok := true
      for c in g.ifs do
        if ok then ok <- isTrue c env (eval c env)
      if ok then
        (do let _ <- call (.builtin "list.append") [aA, <- eval gx env]
            pure () : Sem Unit)
        again (.compLoop e 0 it aA env)
      else again (.compLoop e 0 it aA env) : Sem Fin).onRaise (fun x => do noteFrame x env; theTreesLotGoes x)
theorem oW {M : Model} {Γ : Ctx} {gx : Expr} {g : Comprehension} {sc : Scope} {pos : Pos} {it aA : Value} {env : Env} {Q : Fin -> Pos -> Shared -> Prop} {E : Value -> Pos -> Shared -> Prop} {p : Pos} {s : Shared}
    (ha : (g.is_async != 0) = false) (hf : (Code.compLoop (.ListComp gx [g] sc pos) 0 it aA env).isFrame = false)
    (h : wp M Γ (pyNext it) (fun o p s => match o with
      | none => Q (.done .next) p s
      | some v => wp M Γ (gw (.ListComp gx [g] sc pos) gx g it aA v env) Q E p s) (fun _ _ _ => False) g.iter.pos s) :
    wp M Γ (denote table (.compLoop (.ListComp gx [g] sc pos) 0 it aA env)) Q E p s := by
  have e : denote table (.compLoop (.ListComp gx [g] sc pos) 0 it aA env) = if (Code.compLoop (.ListComp gx [g] sc pos) 0 it aA env).isFrame then (compTurn (.ListComp gx [g] sc pos) 0 it aA env).onRaise (leaving env) else (compTurn (.ListComp gx [g] sc pos) 0 it aA env).onRaise (fun x => do noteFrame x env; theTreesLotGoes x) := rfl
  rw [e, hf]
  simp only [Bool.false_eq_true, if_false]
  unfold compTurn
  simp only [Sem.wp_onRaise, Sem.wp_bind', Sem.wp_cmd_standAt, List.getElem?_cons_zero, ha, Bool.false_eq_true, if_false]
  refine Sem.wp_mono M Γ _ (fun o p' s' h => ?_) (fun _ _ _ h => h.elim) _ _ h
  cases o with
  | none => exact h
  | some v =>
    unfold gw at h
    simp only [Sem.wp_onRaise, Sem.wp_bind'] at h ⊢
    exact h
noncomputable def fR (env:Env):List Expr->Bool->Sem Bool
 | [],ok=>pure ok
 | c::cs,ok=>(match ok with | true=>isTrue c env (eval c env) | false=>pure false)>>=fun nI=>fR env cs nI
theorem nJ {M : Model} {Γ : Ctx} {env : Env} {E : Value -> Pos -> Shared -> Prop} : ∀ (cs : List Expr) (ok : Bool) (Q : Bool -> Pos -> Shared -> Prop) (p : Pos) (s : Shared), wp M Γ (fR env cs ok) Q E p s ->
    wp M Γ (forIn cs ok fun c b => if b = true then (do let ok <- isTrue c env (eval c env); pure (ForInStep.yield ok)) else pure (ForInStep.yield b)) Q E p s
  | [], ok, Q, p, s, h => h
  | c :: cs, ok, Q, p, s, h => by
    rw [List.forIn_cons, Sem.wp_bind']
    cases ok with
    | true =>
      have h : wp M Γ (isTrue c env (eval c env) >>= fun nI => fR env cs nI) Q E p s := h
      rw [Sem.wp_bind'] at h
      simp only [if_true, Sem.wp_bind', Sem.wp_pure']
      exact Sem.wp_mono M Γ _ (fun b p' s' h => nJ cs b Q p' s' h) (fun _ _ _ h => h) _ _ h
    | false =>
      have h : wp M Γ ((pure false : Sem Bool) >>= fun nI => fR env cs nI) Q E p s := h
      rw [Sem.wp_bind', Sem.wp_pure'] at h
      simp only [Bool.false_eq_true, if_false, Sem.wp_pure']
      exact nJ cs false Q p s h
noncomputable def iF (env:Env) (l:List Expr):Bool->Sem Bool:=
 @List.rec Expr (fun _=>Bool->Sem Bool) (fun ok=>.pure ok) (fun c _ ih ok=>R.bindR (@Bool.rec (fun _=>Sem Bool) (.pure false) (Fast.tw15418851999007992765 c env (Fast.tw14044960220447912780 c env)) ok) ih) l
theorem jv (env:Env):∀ (cs:List Expr) (ok:Bool),fR env cs ok=iF env cs ok
 | [],_=>rfl
 | c::cs,ok=>by
  show ((match ok with | true=>isTrue c env (eval c env) | false=>pure false)>>=fun nI=>fR env cs nI)=R.bindR (@Bool.rec (fun _=>Sem Bool) (.pure false) (Fast.tw15418851999007992765 c env (Fast.tw14044960220447912780 c env)) ok) (iF env cs)
  rw [<- R.bindR_eq,<- Fast.te15418851999007992765,<- Fast.te14044960220447912780]
  have:(fun nI=>fR env cs nI)=iF env cs:=funext fun b=>jv env cs b
  rw [this]
  cases ok<;>rfl
section
variable {prog:Program}{w:World}{A:Around}{E:Value->Shared->Prop}{s:Shared}
theorem e8 {it d:Addr}{i n ep:Nat}{od:Obj}{es:Array DictEntry}{e:DictEntry}{ok ov:Value}{Q:Option Value->Shared->Prop}(hit:IsItemIter s.heap it d i n ep ok ov)
  (eM:s.heap.get? d=some od) (dU:od.data=.dict es ep) (aG:es.size=n) (hx:es[i]?=some e)
  (hQ:∀ h',IsItemIterOut h' it d (i+1) n ep e.key e.val s.heap.objs.size->
   h'.get? s.heap.objs.size=some {cls:=.type "tuple",data:=.seq #[e.key,e.val]}->h'.objs.size=s.heap.objs.size+1->
   (∀ b o,b≠it->s.heap.get? b=some o->h'.get? b=some o)->Q (some (.ref s.heap.objs.size)) {s with heap:=h'}):
  wpAny (model prog w) A (pyNext (.ref it)) Q E s:=by
 obtain ⟨hp,g,dr,tk,os⟩:=s
 have hT:Shared.TypeIs ⟨hp,g,dr,tk,os⟩ (.ref it) "dict_itemiterator":=⟨_,hit,rfl⟩
 have cv:i < es.size:=(Array.getElem?_eq_some_iff.mp hx).1
 have On:es[i]=e:=(Array.getElem?_eq_some_iff.mp hx).2
 unfold pyNext
 refine wpAny_bind (wpAny_attempt (wpAny_callSpecial?_slot (name:=Str.ofString "__next__") hT F.slot_dict_itemiterator_next
  (wpAny_call_entry F.slot_dict_itemiterator_next hT F.entry_dict_itemiterator_next ?_ (F.args_dict_itemiterator_next_1 _))))
 refine wpAny_bind (wpAny_pure ?_)
 refine wpAny_bind ?_
 refine wpAny_bind ?_
 first | refine wpAny_bind (wpAny_typeNameOfWhole_itemiter hT (wpAny_pure ?_)) | refine wpAny_bind (wpAny_typeNameOf_itemiter hT (wpAny_pure ?_))
 refine wpAny_bind (wpAny_fieldsOf hit rfl ?_)
 have gy:Builtin.Dict_items.ownsTuple "dict_itemiterator"=true:=by decide
 simp only [gy,if_true]
 show wpAny _ _ (if (Value.ref d==Value.none)=true then _ else _) _ _ _
 rw [if_neg (show ¬ ((Value.ref d==Value.none)=true) from Bool.false_ne_true)]
 refine wpAny_bind (wpAny_pure ?_)
 refine wpAny_bind (wpAny_dictEntries eM dU ?_)
 rw [if_neg (by rw [aG];simp)]
 refine wpAny_bind (wpAny_pure ?_)
 refine wpAny_bind (wpAny_dictEpoch eM dU ?_)
 rw [if_neg (by simp)]
 refine wpAny_pure ?_
 simp only [show ¬ ((i:Int) < 0) from by lia,if_false,Int.toNat_natCast,hx]
 refine wpAny_bind ?_
 first | refine wpAny_bind (wpAny_typeNameOfWhole_itemiter hT (wpAny_pure ?_)) | refine wpAny_bind (wpAny_typeNameOf_itemiter hT (wpAny_pure ?_))
 refine wpAny_bind (wpAny_isOneOf_itemiter hT ?_)
 show wpAny _ _ (setField (.ref it) 3 (rawInt ((i:Int)+1))>>=_) _ _ ⟨hp,g,dr,tk,os⟩
 refine wpAny_bind (wpAny_setField_rec hit (by simp) fun h₁ cM cw=>?_)
 replace cw:Heap.SameBut it hp h₁:=cw
 replace cM:IsItemIter h₁ it d (i+1) n ep ok ov:=by
  have e:((i+1:Nat):Int)=(i:Int)+1:=by lia
  unfold IsItemIter;rw [e];simpa [rawInt] using cM
 have iZ:Shared.TypeIs ⟨h₁,g,dr,tk,os⟩ (.ref it) "dict_itemiterator":=⟨_,cM,rfl⟩
 refine wpAny_bind (wpAny_holding ?_)
 refine wpAny_bind (wpAny_isOneOf_itemiter iZ ?_)
 refine wpAny_bind (wpAny_isOneOf_itemiter iZ ?_)
 show wpAny _ _ (Builtin.Dict_items.pairFromOwner (.ref it) 6 e.key e.val) _ _ ⟨h₁,g,dr,tk,os⟩
 unfold Builtin.Dict_items.pairFromOwner
 refine wpAny_bind (wpAny_newTuple ?_)
 have dV:IsItemIter (h₁.push {cls:=.type "tuple",data:=.seq #[e.key,e.val]}) it d (i+1) n ep ok ov:=Heap.get?_push_of_some _ cM
 generalize gM:h₁.push {cls:=.type "tuple",data:=.seq #[e.key,e.val]}=fk at dV
 have gN:h₁.objs.size=hp.objs.size:=cw.1
 have rd:it < hp.objs.size:=Heap.lt_size hit
 have re:fk.get? hp.objs.size=some {cls:=.type "tuple",data:=.seq #[e.key,e.val]}:=by rw [<- gM,<- gN];exact Heap.get?_push_size _ rfl
 have rg:fk.objs.size=hp.objs.size+1:=by rw [<- gM,Heap.size_push,gN]
 have nK:∀ b o,b≠it->hp.get? b=some o->fk.get? b=some o:=fun b o hb e=>by rw [<- gM];exact Heap.get?_push_of_some _ (cw.extBut b o hb e)
 show wpAny _ _ (Builtin.Dict_items.ownedTupleIsFree (.ref it)>>=_) _ _ ⟨fk,g,dr,tk,os⟩
 rw [gN]
 clear gM cM cw iZ gN h₁
 refine wpAny_bind ?_
 unfold Builtin.Dict_items.ownedTupleIsFree
 refine wpAny_bind (wpAny_field dV rfl (x:=.none) rfl (wpAny_pure ?_))
 simp only [if_true]
 refine wpAny_bind (wpAny_field dV rfl (x:=ok) rfl ?_)
 refine wpAny_bind (wpAny_field dV rfl (x:=ov) rfl ?_)
 refine wpAny_bind (wpAny_setField_rec dV (by simp) fun gf gO e9=>?_)
 replace e9:Heap.SameBut it fk gf:=e9
 replace gO:IsItemIter gf it d (i+1) n ep e.key ov:=gO
 refine wpAny_bind (wpAny_setField_rec gO (by simp) fun wo rh lE=>?_)
 replace lE:Heap.SameBut it gf wo:=lE
 replace rh:IsItemIter wo it d (i+1) n ep e.key e.val:=rh
 refine wpAny_bind (wpAny_setField_rec rh (by simp) fun wq ri lF=>?_)
 replace lF:Heap.SameBut it wo wq:=lF
 replace ri:IsItemIterOut wq it d (i+1) n ep e.key e.val hp.objs.size:=ri
 refine wpAny_bind (wpAny_setField_rec ri (by simp) fun sH rl lH=>?_)
 replace lH:Heap.SameBut it wq sH:=lH
 replace rl:IsItemIterOut sH it d (i+1) n ep e.key e.val hp.objs.size:=rl
 refine wpAny_bind (wpAny_letGo (wpAny_pure (wpAny_pure ⟨_,rfl,wpAny_pure (hQ sH rl ?_ ?_ ?_)⟩)))
 ·exact lH.extBut _ _ (Nat.ne_of_gt rd) (lF.extBut _ _ (Nat.ne_of_gt rd) (lE.extBut _ _ (Nat.ne_of_gt rd) (e9.extBut _ _ (Nat.ne_of_gt rd) re)))
 ·show sH.objs.size=hp.objs.size+1
  rw [lH.1,lF.1,lE.1,e9.1,rg]
 ·exact fun b o hb e=>lH.extBut b o hb (lF.extBut b o hb (lE.extBut b o hb (e9.extBut b o hb (nK b o hb e))))
theorem hO {it d:Addr}{i n ep:Nat}{od:Obj}{es:Array DictEntry}{ok ov:Value}{Q:Option Value->Shared->Prop}(hh:A.handled=none) (hit:IsItemIter s.heap it d i n ep ok ov)
  (eM:s.heap.get? d=some od) (dU:od.data=.dict es ep) (aG:es.size=n) (hx:n<=i)
  (hQ:∀ h' o',h'.get? it=some o'->Heap.ExtBut it s.heap h'->s.heap.objs.size<=h'.objs.size->Q none {s with heap:=h'}):wpAny (model prog w) A (pyNext (.ref it)) Q E s:=by
 have hT:s.TypeIs (.ref it) "dict_itemiterator":=⟨_,hit,rfl⟩
 unfold pyNext
 refine wpAny_bind (wpAny_attempt (wpAny_callSpecial?_slot (name:=Str.ofString "__next__") hT F.slot_dict_itemiterator_next
  (wpAny_call_entry F.slot_dict_itemiterator_next hT F.entry_dict_itemiterator_next ?_ (F.args_dict_itemiterator_next_1 _))))
 refine wpAny_bind (wpAny_pure ?_)
 refine wpAny_bind ?_
 refine wpAny_bind ?_
 first | refine wpAny_bind (wpAny_typeNameOfWhole_itemiter hT (wpAny_pure ?_)) | refine wpAny_bind (wpAny_typeNameOf_itemiter hT (wpAny_pure ?_))
 refine wpAny_bind (wpAny_fieldsOf hit rfl ?_)
 have gy:Builtin.Dict_items.ownsTuple "dict_itemiterator"=true:=by decide
 simp only [gy,if_true]
 show wpAny _ _ (if (Value.ref d==Value.none)=true then _ else _) _ _ s
 rw [if_neg (show ¬ ((Value.ref d==Value.none)=true) from Bool.false_ne_true)]
 refine wpAny_bind (wpAny_pure ?_)
 refine wpAny_bind (wpAny_dictEntries eM dU ?_)
 rw [if_neg (by rw [aG];simp)]
 refine wpAny_bind (wpAny_pure ?_)
 refine wpAny_bind (wpAny_dictEpoch eM dU ?_)
 rw [if_neg (by simp)]
 refine wpAny_pure ?_
 have wr:es.size<=i:=by rw [aG];exact hx
 simp only [show ¬ ((i:Int) < 0) from by lia,if_false,Int.toNat_natCast,Array.getElem?_eq_none wr]
 refine wpAny_bind ?_
 first | refine wpAny_bind (wpAny_typeNameOfWhole_itemiter hT (wpAny_pure ?_)) | refine wpAny_bind (wpAny_typeNameOf_itemiter hT (wpAny_pure ?_))
 show wpAny _ _ (setField (.ref it) 2 .none>>=_) _ _ s
 refine wpAny_bind (wpAny_setField hit rfl (by simp) ?_)
 show wpAny _ _ (newExc (.type "StopIteration") []>>=_) _ _ _
 refine wpAny_bind ?_
 simp only [newExc,newTuple]
 refine wpAny_bind (wpAny_newObj_type ?_ (by size_fits))
 refine wpAny_bind (m:=firstArgMember _ _) (wpAny_of_eq (a:=Value.none) (by first | rfl | (simp only [firstArgMember];rfl)) ?_)
 refine wpAny_newObj_type ?_ (by size_fits)
 simp only [raiseNew]
 refine wpAny_bind (wpAny_handled ?_)
 rw [show A.in1.handled=none from hh]
 refine wpAny_bind (wpAny_pure (wpAny_throw ?_))
 refine wpAny_bind (wpAny_isInstance (T:="StopIteration") (b:=true) ⟨_,Heap.get?_push_size _ rfl,rfl⟩ isSubtype_stop ?_)
 refine wpAny_pure (hQ _ _ (Heap.get?_push_of_some _ (Heap.get?_push_of_some _ (Heap.get?_update_self _ hit rfl))) (((Heap.SameBut.update ..).extBut.push _).push _) ?_)
 rw [Heap.size_push,Heap.size_push,Heap.size_update];lia
end
noncomputable def dk (Γ:Ctx):Around:={handled:=Γ.handled,depth:=frameCount Γ.below+Γ.code.weight,units:=Γ.units}
theorem lI (Γ:Ctx):Γ.In (dk Γ):=⟨rfl,Nat.le_refl _,(fun _ h=>nomatch h),(fun _ h=>nomatch h),Nat.le_refl _⟩
theorem bm {M:Model}{Γ:Ctx}{α:Type}{t:Sem α}{Q:α->Shared->Prop}{E:Value->Shared->Prop}{s:Shared}(h:wpAny M (dk Γ) t Q E s) (p:Pos):wp M Γ t (fun a _ s'=>Q a s') (fun e _ s'=>E e s') p s:=h Γ p (lI Γ)
section
variable {prog:Program}{w:World}{Γ:Ctx}{R:Result->Shared->Prop}{p:Pos}{s:Shared}
theorem aP {id:String}{args:Args}{b:Builtin}(aV:Γ.code=.builtin id args) (hb:entryFor table id=some b)
  (h:wp (model prog w) Γ (b args) (finPost (model prog w) Γ R) (fun e _ s'=>R (.error e) s') p s):wpCode (model prog w) Γ R p s:=by
 refine (wpCode_iff_wp _ _ _ _ _).mpr ?_
 rw [aV]
 have e:(model prog w).den (.builtin id args)=b args:=by
  show (match entryFor table id with | some b=>b args | none=>unsupported ((withoutEnding? id "#data").getD id))=_
  rw [hb]
 rw [e];exact h
theorem iq {d:Addr}{o:Obj}{es:Array DictEntry}{ep:Nat}{k:Int}{t:Tok}{Q:Option Value->Pos->Shared->Prop}{E:Value->Pos->Shared->Prop}(ho:s.heap.get? d=some o) (hd:o.data=.dict es ep) (hk:IntKeys es)
  (h:∀ p,Q (findBy Value.isInt es k) p {s with toks:=s.toks+1}):wp (model prog w) Γ (dictGet d (.int k t)) Q E p s:=by
 refine Sem.wp_mono _ _ _ (fun a p' s' h'=>h' p') (fun e p' s' h'=>h'.elim) _ _ (bm (Q:=fun a s'=>∀ p,Q a p s') (E:=fun _ _=>False) ?_ p)
 unfold dictGet
 try with_reducible refine wpAny_holding ?_
 refine wpAny_bind (wpAny_pyHash_int (wpAny_bind (wpAny_dictFind_int (s:={s with toks:=s.toks+1}) ho hd hk ?_)))
 rw [findBy_of_findIdx?] at h
 cases hi:es.findIdx? fun e=>Value.isInt k e.key with
 | none=>rw [hi] at h;exact wpAny_pure h
 | some i=>rw [hi] at h;exact wpAny_bind (wpAny_dictEntries (s:={s with toks:=s.toks+1}) ho hd (wpAny_pure h))
theorem nL {d:Addr}{o:Obj}{es:Array DictEntry}{ep:Nat}{k:Int}{t:Tok}{v:Value}(aV:Γ.code=.builtin "dict.__getitem__" ⟨[.ref d,.int k t],[]⟩)
  (ho:s.heap.get? d=some o) (hd:o.data=.dict es ep) (hk:IntKeys es) (hf:findBy Value.isInt es k=some v) (h:R (.ok (.ret v)) {s with toks:=s.toks+1}):wpCode (model prog w) Γ R p s:=by
 refine aP aV entry_dict_getitem ?_
 show wp _ _ (dictGet d (.int k t)>>=_) _ _ _ _
 rw [Sem.wp_bind']
 refine iq ho hd hk fun p'=>?_
 rw [hf]
 exact h
noncomputable def iG (d : Addr) (key : Value) : Sem Fin := do
  match <- callSpecial? (.ref d) "__missing__" [key] with
  | some r => do rule "dict.__getitem__.missing-hook"; ret r
  | none => unsupported "no __missing__"
theorem mF {d:Addr}{o:Obj}{es:Array DictEntry}{ep:Nat}{k:Int}{t:Tok}{c:Addr}(aV:Γ.code=.builtin "dict.__getitem__" ⟨[.ref d,.int k t],[]⟩)
  (ho:s.heap.get? d=some o) (hc:o.cls=.ref c) (hd:o.data=.dict es ep) (hk:IntKeys es) (hf:findBy Value.isInt es k=none)
  (h:∀ p,wp (model prog w) Γ (iG d (.int k t)) (finPost (model prog w) Γ R) (fun e _ s'=>R (.error e) s') p {s with toks:=s.toks+1}):wpCode (model prog w) Γ R p s:=by
 refine aP aV entry_dict_getitem ?_
 show wp _ _ (dictGet d (.int k t)>>=_) _ _ _ _
 rw [Sem.wp_bind']
 refine iq ho hd hk fun p'=>?_
 rw [hf]
 show wp _ _ (Builtin.Dict.missed d (.int k t)>>=_) _ _ _ _
 rw [Sem.wp_bind']
 refine Sem.wp_mono _ _ _ (fun a p' s' h'=>?_) (fun e p' s' h'=>h'.elim) _ _ (bm (Q:=fun a s'=>a=none/\s'={s with toks:=s.toks+1}) (E:=fun _ _=>False) (wpAny_missed_int ⟨rfl,rfl⟩) p')
 obtain ⟨rfl,rfl⟩:=h'
 have ht:wp (model prog w) Γ (typeOf (.ref d)) (fun a GC iR=>a=.ref c/\GC=p'/\iR={s with toks:=s.toks+1}) (fun _ _ _=>False) p' {s with toks:=s.toks+1}:=by
  unfold typeOf
  rw [Sem.wp_bind']
  refine (Sem.wp_loadPart_of _ _ _ _ {s with toks:=s.toks+1} _ ho _).mpr ?_
  rw [hc]
  exact ⟨rfl,rfl,rfl⟩
 dsimp only
 rw [Sem.wp_bind']
 refine Sem.wp_mono _ _ _ (fun a GC iR h'=>?_) (fun e p' s' h'=>h'.elim) _ _ ht
 obtain ⟨rfl,rfl,rfl⟩:=h'
 rw [if_pos (show (Value.ref c != Value.type "dict")=true from rfl)]
 have h:=h GC
 unfold iG at h
 rw [Sem.wp_bind'] at h ⊢
 refine Sem.wp_mono _ _ _ (fun a p' s' h=>?_) (fun e p' s' h=>h) _ _ h
 cases a with
 | none=>exact h.elim
 | some r=>exact h
end
section
variable {fuel i n n' n1 tk:Nat}{h':Heap}{h1 h2 hs keep:List Nat}{m:Mm}{o o':Obj}{Γ:Ctx}
section
variable {E:En}{h₀:Heap}{Y:Nat}{m:Mm}{n:Nat}{h:Heap}
theorem an {m:Mm}:∀ {is:List Nat},aE (sel m is)=is.length->∀ i∈is,i < aE m
 | [],_,i,hi=>nomatch hi
 | j::is,hl,i,hi=>by
  have Dz:∀ js:List Nat,aE (sel m js)<=js.length:=by
   intro js
   induction js with
   | nil=>exact Nat.le_refl _
   | cons j js ih=>
    show aE (match ad m j with | some x=>x::sel m js | none=>sel m js)<=_
    cases ad m j with
    | none=>exact Nat.le_succ_of_le ih
    | some x=>exact Nat.succ_le_succ ih
  cases q:ad m j with
  | none=>
   have e:sel m (j::is)=sel m is:=by show (match ad m j with | some x=>x::sel m is | none=>sel m is)=_;rw [q]
   rw [e] at hl
   have:=Dz is
   rw [hl] at this
   exact absurd this (Nat.not_succ_le_self _)
  | some x=>
   have e:sel m (j::is)=x::sel m is:=by show (match ad m j with | some x=>x::sel m is | none=>sel m is)=_;rw [q]
   rw [e] at hl
   rcases List.mem_cons.mp hi with rfl | hi
   ·exact gr _ _ _ q
   ·exact an (Nat.succ.inj hl) i hi
theorem ag.pick (r:ag E h₀ Y m n h) (is:List Nat) (K:Nat) (nd:is.Nodup) (pre:is.take K=List.range K) (hk:Y<=K) (hl:aE (sel m is)=is.length):ag E h₀ Y (sel m is) n h:=by
 have hv:=an hl
 have get:∀ j x,ad (sel m is) j=some x->∃ i,is[j]?=some i/\ad m i=some x:=by
  intro j x e
  rw [im hv] at e
  cases q:is[j]? with
  | none=>rw [q] at e;cases e
  | some i=>rw [q] at e;exact ⟨i,rfl,e⟩
 have at_:∀ i,i < Y->is[i]?=some i:=by
  intro i hi
  have:(is.take K)[i]?=some i:=by rw [pre];exact List.getElem?_range (by lia)
  rwa [List.getElem?_take_of_lt (by lia)] at this
 have Oo:∀ j i,j < Y->is[j]?=some i->i=j:=fun j i hj e=>by rw [at_ j hj] at e;cases e;rfl
 have GD:∀ j i,Y<=j->is[j]?=some i->Y<=i:=by
  intro j i hj e
  rcases Nat.lt_or_ge i Y with hi | hi
  ·have lJ:j < is.length:=(List.getElem?_eq_some_iff.mp e).1
   have:=(List.getElem?_inj lJ nd).mp (e.trans (at_ i hi).symm)
   lia
  ·exact hi
 refine ⟨r.size,r.base,fun i a o e=>?_,fun i j a o o' e e'=>?_,fun i a o e=>?_,fun b o e z=>r.keep b o e fun i a o' hi g=>?_,r.start,fun i a o hi e=>?_,?_,r.lowT⟩
 ·obtain ⟨k,_,e⟩:=get i _ e
  exact r.own k a o e
 ·obtain ⟨k,q,e⟩:=get i _ e
  obtain ⟨k',q',e'⟩:=get j _ e'
  have:=r.apart k k' a o o' e e'
  subst this
  have hi:i < is.length:=(List.getElem?_eq_some_iff.mp q).1
  exact (List.getElem?_inj hi nd).mp (q.trans q'.symm)
 ·obtain ⟨k,_,e⟩:=get i _ e
  exact r.off k a o e
 ·refine z i a o' hi ?_
  rw [im hv,at_ i hi];exact g
 ·obtain ⟨k,q,e⟩:=get i _ e
  exact r.fresh k a o (GD i k hi q) e
 ·rw [jt hv]
  rcases Nat.lt_or_ge (is.length) Y with hx | hx
  ·have:=at_ is.length hx
   rw [List.getElem?_eq_none (Nat.le_refl _)] at this;cases this
  ·exact hx
theorem ag.chg (r:ag E h₀ Y m n h) {a:Addr}(e:ad m i=some (a,o)) (h1:h'.get? a=some o') (hs:h'.objs.size=n') (hn:n<=n')
  (same:∀ b x,b≠a->h.get? b=some x->h'.get? b=some x):ag E h₀ Y (cg m i o') n' h':=by
 have gs:∀ j b x,ad (cg m i o') j=some (b,x)->(j=i/\b=a/\x=o')∨(j≠i/\ad m j=some (b,x)):=by
  intro j b x q
  rw [dg] at q
  split at q
  ·rename_i hj
   rw [e] at q;cases q
   exact .inl ⟨hj,rfl,rfl⟩
  ·rename_i hj
   exact .inr ⟨hj,q⟩
 have IQ:∀ j b x,ad m j=some (b,x)->∃ x',ad (cg m i o') j=some (b,x'):=by
  intro j b x q
  rw [dg]
  split
  ·rename_i hj;subst hj;rw [q];exact ⟨_,rfl⟩
  ·exact ⟨x,q⟩
 have add:∀ j b x,ad (cg m i o') j=some (b,x)->∃ x',ad m j=some (b,x'):=by
  intro j b x q
  rcases gs j b x q with ⟨rfl,rfl,rfl⟩ | ⟨_,q⟩
  ·exact ⟨_,e⟩
  ·exact ⟨_,q⟩
 refine ⟨hs,fun b x e' q=>?_,fun j b x q=>?_,fun j1 j2 b o1 o2 q1 q2=>?_,fun j b x q=>?_,fun b x q z=>?_,Nat.le_trans r.start hn,fun j b x hj q=>?_,by rw [mX];exact r.old,fun b hb=>r.lowT b (Nat.le_trans hn hb)⟩
 ·refine same b x ?_ (r.base b x e' q)
  rintro rfl
  rcases r.off i _ o e with y | y
  ·rw [y] at q;cases q
  ·rw [y] at e';cases e'
 ·rcases gs j b x q with ⟨rfl,rfl,rfl⟩ | ⟨hj,q⟩
  ·exact h1
  ·refine same b x ?_ (r.own j b x q)
   rintro rfl
   exact hj (r.apart j i _ _ _ q e)
 ·obtain ⟨_,q1⟩:=add _ _ _ q1
  obtain ⟨_,q2⟩:=add _ _ _ q2
  exact r.apart j1 j2 b _ _ q1 q2
 ·obtain ⟨_,q⟩:=add _ _ _ q
  exact r.off j b _ q
 ·have k:=r.keep b x q fun j c y hj q2=>by
   obtain ⟨_,q3⟩:=IQ j c y q2
   exact z j c _ hj q3
  refine same b x ?_ k
  rintro rfl
  by_cases hi:i < Y
  ·obtain ⟨_,q3⟩:=IQ i _ _ e
   exact z i _ _ hi q3 rfl
  ·exact absurd (Heap.lt_size q) (Nat.not_lt.mpr (r.fresh i _ o (by lia) e))
 ·obtain ⟨_,q⟩:=add _ _ _ q
  exact r.fresh j b _ hj q
theorem ag.grow (r:ag E h₀ Y m n h) (hs:h'.objs.size=n') (hn:n<=n') (same:∀ b x,h.get? b=some x->h'.get? b=some x):ag E h₀ Y m n' h':=
 ⟨hs,fun b x e q=>same b x (r.base b x e q),fun i a o e=>same a o (r.own i a o e),r.apart,r.off,fun b x q z=>same b x (r.keep b x q z),Nat.le_trans r.start hn,r.fresh,r.old,fun a ha=>r.lowT a (Nat.le_trans hn ha)⟩
theorem ag.new (r:ag E h₀ Y m n h) {b:Addr}{h1:Heap}(r1:ag E h₀ Y m n1 h1) (e:h1.get? b=some o) (hb:n<=b):ag E h₀ Y (d7 m (b,o)) n1 h1:=
 r1.know e (Nat.le_trans r.start hb) (fun i o' q=>absurd (r.lt q) (Nat.not_lt.mpr hb)) (r.lowT b hb)
end
structure aL (E:En) (d:Drawn) (os:OsState) where
 X:Type
 x0:X
 L:Type
 look:bC->L
 v:L
 ans:X->bC->fz
 says:X->Prop
 holds:∀ h₀ Y (hs:List Nat),Holds E h₀ Y d os (fun q=>look q=v) (fun x q=>⟨(ans x q).t,(ans x q).p,(ans x q).m,(ans x q).n,(ans x q).tk,hs⟩) says
section
variable {E:En}{d:Drawn}{os:OsState}
noncomputable def aL.aw (C:aL E d os) (x:C.X) (hs:List Nat):bC->fz:=fun q=>⟨(C.ans x q).t,(C.ans x q).p,(C.ans x q).m,(C.ans x q).n,(C.ans x q).tk,hs⟩
noncomputable def nN:Sem Fin->Bool
 | .pure (.again c)=>c.quiet
 | _=>true
noncomputable def fi (keep:List Nat) (o:Out):Ctx×Nat×Bool×gt×Mm×Nat×Nat:=(o.c.Γ.goto default,o.c.κ.length,nN o.c.t,iY o.c.t,sel o.c.m keep,o.c.n,o.c.tk)
noncomputable def dx (E:En) (R:Result->Shared->Prop) (Γ:Ctx):gt->Pos->Shared->Prop
 | .done f,_,s=>R (.ok f) s
 | .raise e,_,s=>R (.error e) s
 | .again c,p,s=>wpCode (Mo E) (Γ.goto c) R p s
 | .other,_,_=>False
variable {h₀:Heap}{Y:Nat}{R:Result->Shared->Prop}
theorem oZ {c:eL}{t:gt}{s:Shared}(e1:c.Γ.goto default=Γ.goto default) (e2:c.κ.length=0) (e3:nN c.t=true) (e4:iY c.t=t) (F:∀ p,dx E R Γ t p s):Wc (Mo E) R c s:=by
 obtain ⟨LQ,p,κ,t',m,n,tk⟩:=c
 obtain rfl:=List.length_eq_zero_iff.mp e2
 cases nG e4 with
 | done f=>exact F p
 | again c=>exact ⟨e3,wm e1 c▸F p⟩
 | raise e=>exact F p
 | other t=>exact (F p).elim
theorem jw {o:Out}{K:Nat}{t:gt}(e:fi keep o=(Γ.goto default,0,true,t,m,n,tk)) (hk:Y<=K) (nd:keep.Nodup) (pre:keep.take K=List.range K) (hl:aE m=keep.length)
  (fin:∀ p h g,E.G g->ag E h₀ Y m n h->dx E R Γ t p ⟨h,g,d,tk,os⟩):am E h₀ Y R d os o.c:=by
 intro h g hg hr
 have e5:sel o.c.m keep=m:=congrArg (·.2.2.2.2.1) e
 have e6:o.c.n=n:=congrArg (·.2.2.2.2.2.1) e
 have e7:o.c.tk=tk:=congrArg (·.2.2.2.2.2.2) e
 have aJ:=hr.pick keep K nd pre hk (e5▸hl)
 rw [e5,e6] at aJ
 rw [e7]
 exact oZ (congrArg (·.1) e) (congrArg (·.2.1) e) (congrArg (·.2.2.1) e) (congrArg (·.2.2.2.1) e) fun p=>fin p h g hg aJ
theorem DA {c:eL}{K:Nat}{t:gt}
  (H:((dH E fuel hs [] c).L,(dH E fuel hs [] c).A.length,fi keep (dH E fuel hs [] c))=((dH E fuel hs [] c).R,0,Γ.goto default,0,true,t,m,n,tk))
  (hk:Y<=K) (nd:keep.Nodup) (pre:keep.take K=List.range K) (hl:aE m=keep.length)
  (fin:∀ p h g,E.G g->ag E h₀ Y m n h->dx E R Γ t p ⟨h,g,d,tk,os⟩) (eg:E.nb=true:=by rfl):am E h₀ Y R d os c:=by
 obtain ⟨e1,e⟩:=Prod.ext_iff.mp H
 obtain ⟨e2,e⟩:=Prod.ext_iff.mp e
 refine dj eg fuel .nil hs c ⟨e1,?_⟩ trivial (jw e hk nd pre hl fin)
 rw [List.length_eq_zero_iff.mp e2];trivial
theorem m4 {α:Type}{A:List α}(h:A.length=n+1):∃ a B,A=a::B/\B.length=n:=by
 cases A with
 | nil=>rw [List.length_nil] at h;lia
 | cons a B=>exact ⟨a,B,rfl,Nat.succ.inj h⟩
theorem ws {α:Type}{A:List α}(h:A.length=0):A=[]:=List.length_eq_zero_iff.mp h
theorem sI {A:List bC}{e:bC->Prop}(h:A.length=1) (h1:e (io A 0)):cu A [e]:=by
 obtain ⟨a,B,rfl,hB⟩:=m4 h
 obtain rfl:=ws hB
 exact ⟨h1,trivial⟩
theorem DB {A:List bC}{e e':bC->Prop}(h:A.length=2) (h1:e (io A 0)) (h2:e' (io A 1)):cu A [e,e']:=by
 obtain ⟨a,B,rfl,hB⟩:=m4 h
 exact ⟨h1,sI hB h2⟩
theorem Op (C1:aL E d os) {c:eL}{K:Nat}{t:C1.X->gt}{m:C1.X->Mm}{n tk:C1.X->Nat}
  (H:∀ x1,((dH E fuel hs [C1.aw x1 h1] c).L,(dH E fuel hs [C1.aw x1 h1] c).A.length,C1.look (io (dH E fuel hs [C1.aw x1 h1] c).A 0),fi keep (dH E fuel hs [C1.aw x1 h1] c))=
   ((dH E fuel hs [C1.aw x1 h1] c).R,1,C1.v,Γ.goto default,0,true,t x1,m x1,n x1,tk x1))
  (hk:Y<=K) (nd:keep.Nodup) (pre:keep.take K=List.range K) (hl:∀ x1,aE (m x1)=keep.length)
  (fin:∀ x1,C1.says x1->∀ p h g,E.G g->ag E h₀ Y (m x1) (n x1) h->dx E R Γ (t x1) p ⟨h,g,d,tk x1,os⟩) (eg:E.nb=true:=by rfl):am E h₀ Y R d os c:=by
 refine dj eg fuel (.cons C1.x0 (fun q=>C1.look q=C1.v) (fun x=>C1.aw x h1) C1.says fun _=>.nil) hs c ?_ ⟨C1.holds h₀ Y h1,fun _ _=>trivial⟩ fun x1 s1=>?_
 ·intro x1
  obtain ⟨e1,e⟩:=Prod.ext_iff.mp (H x1)
  obtain ⟨e2,e⟩:=Prod.ext_iff.mp e
  obtain ⟨e3,e⟩:=Prod.ext_iff.mp e
  exact ⟨e1,sI e2 e3⟩
 ·obtain ⟨e1,e⟩:=Prod.ext_iff.mp (H x1)
  obtain ⟨e2,e⟩:=Prod.ext_iff.mp e
  obtain ⟨e3,e⟩:=Prod.ext_iff.mp e
  exact jw e hk nd pre (hl x1) (fin x1 s1)
theorem Oq (C1:aL E d os) (C2:C1.X->aL E d os) {c:eL}{K:Nat}{t:(x1:C1.X)->(C2 x1).X->gt}{m:(x1:C1.X)->(C2 x1).X->Mm}{n tk:(x1:C1.X)->(C2 x1).X->Nat}
  (H:∀ x1 x2,((dH E fuel hs [C1.aw x1 h1,(C2 x1).aw x2 h2] c).L,(dH E fuel hs [C1.aw x1 h1,(C2 x1).aw x2 h2] c).A.length,C1.look (io (dH E fuel hs [C1.aw x1 h1,(C2 x1).aw x2 h2] c).A 0),
    (C2 x1).look (io (dH E fuel hs [C1.aw x1 h1,(C2 x1).aw x2 h2] c).A 1),fi keep (dH E fuel hs [C1.aw x1 h1,(C2 x1).aw x2 h2] c))=
   ((dH E fuel hs [C1.aw x1 h1,(C2 x1).aw x2 h2] c).R,2,C1.v,(C2 x1).v,Γ.goto default,0,true,t x1 x2,m x1 x2,n x1 x2,tk x1 x2))
  (hk:Y<=K) (nd:keep.Nodup) (pre:keep.take K=List.range K) (hl:∀ x1 x2,aE (m x1 x2)=keep.length)
  (fin:∀ x1,C1.says x1->∀ x2,(C2 x1).says x2->∀ p h g,E.G g->ag E h₀ Y (m x1 x2) (n x1 x2) h->dx E R Γ (t x1 x2) p ⟨h,g,d,tk x1 x2,os⟩) (eg:E.nb=true:=by rfl):am E h₀ Y R d os c:=by
 refine dj eg fuel (.cons C1.x0 (fun q=>C1.look q=C1.v) (fun x=>C1.aw x h1) C1.says fun x1=>.cons (C2 x1).x0 (fun q=>(C2 x1).look q=(C2 x1).v) (fun x=>(C2 x1).aw x h2) (C2 x1).says fun _=>.nil) hs c ?_
  ⟨C1.holds h₀ Y h1,fun x1 _=>⟨(C2 x1).holds h₀ Y h2,fun _ _=>trivial⟩⟩ fun x1 s1 x2 s2=>?_
 ·intro x1 x2
  obtain ⟨e1,e⟩:=Prod.ext_iff.mp (H x1 x2)
  obtain ⟨e2,e⟩:=Prod.ext_iff.mp e
  obtain ⟨e3,e⟩:=Prod.ext_iff.mp e
  obtain ⟨e4,e⟩:=Prod.ext_iff.mp e
  exact ⟨e1,DB e2 e3 e4⟩
 ·obtain ⟨e1,e⟩:=Prod.ext_iff.mp (H x1 x2)
  obtain ⟨e2,e⟩:=Prod.ext_iff.mp e
  obtain ⟨e3,e⟩:=Prod.ext_iff.mp e
  obtain ⟨e4,e⟩:=Prod.ext_iff.mp e
  exact jw e hk nd pre (hl x1 x2) (fin x1 s1 x2 s2)
end
end
structure CH (E:En) (d:Drawn) (os:OsState) where
 X:Type
 x0:X
 L:Type
 look:bC->L
 v:L
 ans:X->bC->fz
 says:X->Prop
 gd:Heap->Nat->Prop
 holds:∀ h₀ Y,gd h₀ Y->∀ hs:List Nat,Holds E h₀ Y d os (fun q=>look q=v) (fun x q=>⟨(ans x q).t,(ans x q).p,(ans x q).m,(ans x q).n,(ans x q).tk,hs⟩) says
noncomputable def CH.aw {E:En}{d:Drawn}{os:OsState}(C:CH E d os) (x:C.X) (hs:List Nat):bC->fz:=fun q=>⟨(C.ans x q).t,(C.ans x q).p,(C.ans x q).m,(C.ans x q).n,(C.ans x q).tk,hs⟩
inductive TE (E:En) (d:Drawn) (os:OsState) (ε:Type):Type 1
 | e (x:ε)
 | c (C:aL E d os) (r:C.X->TE E d os ε)
 | u (C:aL E d os) (r:TE E d os ε)
 | h (C:CH E d os) (r:C.X->TE E d os ε)
section
variable {E:En}{d:Drawn}{os:OsState}{ε τ:Type}(h₀:Heap) (Y:Nat) (F:ε->Prop) (fo:ε->Out->τ) (fe:ε->τ) (c:eL) (fuel:Nat) (hs:List Nat)
noncomputable def TE.fin:TE E d os ε->Prop
 | .e x=>F x
 | .c C r=>∀ x,C.says x->(r x).fin
 | .u _ r=>r.fin
 | .h C r=>C.gd h₀ Y/\∀ x,C.says x->(r x).fin
noncomputable def jx:List (List Nat)->List Nat
 | []=>[]
 | x::_=>x
noncomputable def o4:List (List Nat)->List (List Nat)
 | []=>[]
 | _::l=>l
noncomputable def TE.tel:TE E d os ε->List (List Nat)->dh
 | .e _,_=>.nil
 | .c C r,hh | .h C r,hh=>.cons C.x0 (fun q=>C.look q=C.v) (fun x=>C.aw x (jx hh)) C.says fun x=>(r x).tel (o4 hh)
 | .u C r,hh=>.cons C.x0 (fun q=>C.look q=C.v) (fun x=>C.aw x (jx hh)) C.says fun _=>r.tel (o4 hh)
theorem TE.valid:∀ (T:TE E d os ε) (hh:List (List Nat)),T.fin h₀ Y F->(T.tel hh).Valid E h₀ Y d os
 | .e _,_,_=>trivial
 | .c C r,hh,H=>⟨C.holds h₀ Y _,fun x sx=>(r x).valid _ (H x sx)⟩
 | .u C r,hh,H=>⟨C.holds h₀ Y _,fun _ _=>r.valid _ H⟩
 | .h C r,hh,H=>⟨C.holds h₀ Y H.1 _,fun x sx=>(r x).valid _ (H.2 x sx)⟩
noncomputable def TE.O (τ:Type):TE E d os ε->Type->Type
 | .e _,LT=>List Nat×Nat×LT×τ
 | .c C r,LT | .h C r,LT=>(x:C.X)->(r x).O τ (LT×C.L)
 | .u C r,LT=>(x:C.X)->r.O τ (LT×C.L)
noncomputable def TE.lhs:(T:TE E d os ε)->List (List Nat)->List (bC->fz)->(LT:Type)->(Out->LT)->Nat->T.O τ LT
 | .e x,_,as,LT,lk,_=>((dH E fuel hs as c).L,(dH E fuel hs as c).A.length,lk (dH E fuel hs as c),fo x (dH E fuel hs as c))
 | .c C r,hh,as,LT,lk,i=>fun x=>(r x).lhs (o4 hh) (as++[C.aw x (jx hh)]) (LT×C.L) (fun o=>(lk o,C.look (io o.A i))) (i+1)
 | .u C r,hh,as,LT,lk,i=>fun x=>r.lhs (o4 hh) (as++[C.aw x (jx hh)]) (LT×C.L) (fun o=>(lk o,C.look (io o.A i))) (i+1)
 | .h C r,hh,as,LT,lk,i=>fun x=>(r x).lhs (o4 hh) (as++[C.aw x (jx hh)]) (LT×C.L) (fun o=>(lk o,C.look (io o.A i))) (i+1)
noncomputable def TE.rhs:(T:TE E d os ε)->List (List Nat)->List (bC->fz)->(LT:Type)->LT->Nat->T.O τ LT
 | .e x,_,as,LT,v,i=>((dH E fuel hs as c).R,i,v,fe x)
 | .c C r,hh,as,LT,v,i=>fun x=>(r x).rhs (o4 hh) (as++[C.aw x (jx hh)]) (LT×C.L) (v,C.v) (i+1)
 | .u C r,hh,as,LT,v,i=>fun x=>r.rhs (o4 hh) (as++[C.aw x (jx hh)]) (LT×C.L) (v,C.v) (i+1)
 | .h C r,hh,as,LT,v,i=>fun x=>(r x).rhs (o4 hh) (as++[C.aw x (jx hh)]) (LT×C.L) (v,C.v) (i+1)
theorem lK:∀ {A:List bC}{es:List (bC->Prop)}{i:Nat}{e:bC->Prop},i+1<=A.length->cu (A.take i) es->e (io A i)->cu (A.take (i+1)) (es++[e])
 | [],es,i,e,h,_,_=>absurd h (by simp)
 | a::A,[],0,e,h,_,h3=>⟨h3,by simp [cu]⟩
 | a::A,[],i+1,e,h,h2,_=>h2.elim
 | a::A,f::es,0,e,h,h2,_=>h2.elim
 | a::A,f::es,i+1,e,h,h2,h3=>⟨h2.1,lK (Nat.le_of_succ_le_succ h) h2.2 h3⟩
variable {h₀ Y F fo fe c fuel hs}
theorem jW (a:bC->fz) {as:List (bC->fz)}:(fun l=>dH E fuel hs (as++(a::l)) c)=fun l=>dH E fuel hs ((as++[a])++l) c:=by
 funext l;rw [List.append_assoc];rfl
theorem nO {L:Type}{look:bC->L}{v':L}{LT:Type}{lk:Out->LT}{v:LT}{i:Nat}{es:List (bC->Prop)}(J:∀ o:Out,lk o=v->i<=o.A.length->cu (o.A.take i) es) (o:Out) (e:(lk o,look (io o.A i))=(v,v')) (hi:i+1<=o.A.length):
  cu (o.A.take (i+1)) (es++[fun q=>look q=v']):=lK hi (J o (congrArg (·.1) e) (Nat.le_of_succ_le hi)) (congrArg (·.2) e)
theorem ir:∀ (T:TE E d os ε) (hh:List (List Nat)) {as:List (bC->fz)}{LT:Type}{lk:Out->LT}{v:LT}{i:Nat}{es:List (bC->Prop)},
  T.lhs fo c fuel hs hh as LT lk i=T.rhs fe c fuel hs hh as LT v i->(∀ o:Out,lk o=v->i<=o.A.length->cu (o.A.take i) es)->(T.tel hh).Runs (fun l=>dH E fuel hs (as++l) c) es
 | .e x,hh,as,LT,lk,v,i,es,H,J=>by
  have e1:(dH E fuel hs as c).L=(dH E fuel hs as c).R:=congrArg (·.1) H
  have e2:(dH E fuel hs as c).A.length=i:=congrArg (·.2.1) H
  have z:=J (dH E fuel hs as c) (congrArg (·.2.2.1) H) (Nat.le_of_eq e2.symm)
  rw [<- e2,List.take_length] at z
  rw [<- List.append_nil as] at e1 z
  exact ⟨e1,z⟩
 | .c C r,hh,as,LT,lk,v,i,es,H,J=>fun x=>jW (c:=c) (C.aw x (jx hh))▸ir (r x) _ (congrFun H x) (nO J)
 | .u C r,hh,as,LT,lk,v,i,es,H,J=>fun x=>jW (c:=c) (C.aw x (jx hh))▸ir r _ (congrFun H x) (nO J)
 | .h C r,hh,as,LT,lk,v,i,es,H,J=>fun x=>jW (c:=c) (C.aw x (jx hh))▸ir (r x) _ (congrFun H x) (nO J)
theorem jy {Q:eL->Prop}(hE:∀ x o,fo x o=fe x->F x->Q o.c):∀ (T:TE E d os ε) (hh:List (List Nat)) {as:List (bC->fz)}{LT:Type}{lk:Out->LT}{v:LT}{i:Nat},
  T.lhs fo c fuel hs hh as LT lk i=T.rhs fe c fuel hs hh as LT v i->T.fin h₀ Y F->(T.tel hh).Fin Q (fun l=>dH E fuel hs (as++l) c)
 | .e x,hh,as,LT,lk,v,i,H,F=>by
  have z:=hE x _ (congrArg (·.2.2.2) H) F
  rw [<- List.append_nil as] at z
  exact z
 | .c C r,hh,as,LT,lk,v,i,H,F=>fun x sx=>jW (c:=c) (C.aw x (jx hh))▸jy hE (r x) _ (congrFun H x) (F x sx)
 | .u C r,hh,as,LT,lk,v,i,H,F=>fun x sx=>jW (c:=c) (C.aw x (jx hh))▸jy hE r _ (congrFun H x) F
 | .h C r,hh,as,LT,lk,v,i,H,F=>fun x sx=>jW (c:=c) (C.aw x (jx hh))▸jy hE (r x) _ (congrFun H x) (F.2 x sx)
end
noncomputable def i0 (K:Nat) (l:List Nat):Bool:=@List.rec Nat (fun _=>Nat->Bool) (fun _=>true) (fun x _ ih k=>@Bool.rec (fun _=>Bool) false (ih (x+1)) (Nat.ble k x)) l K
theorem m5:∀ (l:List Nat) (K:Nat),i0 K l=true->l.Nodup/\∀ x∈l,K<=x
 | [],K,_=>⟨List.nodup_nil,fun _ h=>nomatch h⟩
 | x::l,K,h=>by
  have h:@Bool.rec (fun _=>Bool) false (i0 (x+1) l) (Nat.ble K x)=true:=h
  cases q:Nat.ble K x with
  | false=>rw [q] at h;cases h
  | true=>
   rw [q] at h
   obtain ⟨a,b⟩:=m5 l (x+1) h
   have Hx:=Nat.le_of_ble_eq_true q
   refine ⟨List.nodup_cons.mpr ⟨fun hm=>by have:=b x hm;lia,a⟩,fun y hy=>?_⟩
   rcases List.mem_cons.mp hy with rfl | hy
   ·exact Hx
   ·have:=b y hy;lia
inductive PE
 | e (t:gt) (m:Mm) (n tk:Nat)
 | a (t:gt) (m:Mm) (n tk:Nat)
noncomputable def fa (o:Out):Ctx×Nat×Bool×gt×Mm×Nat×Nat:=(o.c.Γ.goto default,o.c.κ.length,nN o.c.t,iY o.c.t,o.c.m,o.c.n,o.c.tk)
noncomputable def IR (K:Nat) (new:List Nat):PE->Out->Bool×Nat×Ctx×Nat×Bool×gt×Mm×Nat×Nat
 | .e _ m _ _,o=>(i0 K new,aE m,fi (List.range K++new) o)
 | .a ..,o=>(true,0,fa o)
noncomputable def IS (K:Nat) (new:List Nat) (Γ:Ctx):PE->Bool×Nat×Ctx×Nat×Bool×gt×Mm×Nat×Nat
 | .e t m n tk=>(true,K+new.length,Γ.goto default,0,true,t,m,n,tk)
 | .a t m n tk=>(true,0,Γ.goto default,0,true,t,m,n,tk)
section
variable {E:En}{d:Drawn}{os:OsState}{h₀:Heap}{Y:Nat}{R:Result->Shared->Prop}{Γ:Ctx}
noncomputable def PE.fin (E:En) (d:Drawn) (os:OsState) (h₀:Heap) (Y:Nat) (R:Result->Shared->Prop) (Γ:Ctx):PE->Prop
 | .e t m n tk | .a t m n tk=>∀ p h g,E.G g->ag E h₀ Y m n h->dx E R Γ t p ⟨h,g,d,tk,os⟩
theorem ul {o:Out}{t:gt}{m:Mm}{n tk:Nat}(e:fa o=(Γ.goto default,0,true,t,m,n,tk))
  (fin:∀ p h g,E.G g->ag E h₀ Y m n h->dx E R Γ t p ⟨h,g,d,tk,os⟩):am E h₀ Y R d os o.c:=by
 intro h g hg hr
 have e5:o.c.m=m:=congrArg (·.2.2.2.2.1) e
 have e6:o.c.n=n:=congrArg (·.2.2.2.2.2.1) e
 have e7:o.c.tk=tk:=congrArg (·.2.2.2.2.2.2) e
 rw [e5,e6] at hr
 rw [e7]
 exact oZ (congrArg (·.1) e) (congrArg (·.2.1) e) (congrArg (·.2.2.1) e) (congrArg (·.2.2.2.1) e) fun p=>fin p h g hg hr
theorem sJ {K:Nat}{new:List Nat}(e:i0 K new=true):(List.range K++new).Nodup/\(List.range K++new).take K=List.range K/\(List.range K++new).length=K+new.length:=by
 obtain ⟨nd,ge⟩:=m5 _ _ e
 refine ⟨?_,?_,?_⟩
 ·rw [List.nodup_append]
  exact ⟨List.nodup_range,nd,fun a ha b hb q=>Nat.lt_irrefl b (Nat.lt_of_lt_of_le (q▸List.mem_range.mp ha) (ge b hb))⟩
 ·rw [List.take_append_of_le_length (by simp),List.take_of_length_le (by simp)]
 ·rw [List.length_append,List.length_range]
theorem DC {K:Nat}{new:List Nat}(hk:Y<=K):∀ (x:PE) (o:Out),IR K new x o=IS K new Γ x->x.fin E d os h₀ Y R Γ->am E h₀ Y R d os o.c
 | .e t m n tk,o,H,F=>by
  have e5:aE m=K+new.length:=congrArg (·.2.1) H
  obtain ⟨h1,h2,h3⟩:=sJ (congrArg (·.1) H:i0 K new=true)
  exact jw (keep:=List.range K++new) (K:=K) (congrArg (·.2.2) H) hk h1 h2 (e5.trans h3.symm) F
 | .a t m n tk,o,H,F=>ul (congrArg (·.2.2) H) F
end
noncomputable def LR (f:Nat):Nat->List Nat:=@Nat.rec (fun _=>Nat->List Nat) (fun _=>[]) (fun _ ih n=>@Bool.rec (fun _=>List Nat) (@Bool.rec (fun _=>List Nat) (Nat.mod n 16::ih (Nat.div n 16)) (Nat.mod (Nat.div n 16) 256::ih (Nat.div n 4096)) (Nat.beq (Nat.mod n 16) 15)) [] (Nat.ble n 1)) f
noncomputable def Hx:Nat->List Nat:=LR 9999
structure dW (d:Drawn) (os:OsState) where
 E:En
 K:Nat
 Γ:Ctx
 t:Sem Fin
 m:Mm
 n:Nat
 tk:Nat
 T:TE E d os PE
noncomputable def dW.ok {d:Drawn}{os:OsState}:dW d os->Prop
 | ⟨E,K,Γ,t,m,n,tk,T⟩=>∀ ⦃h₀:Heap⦄ ⦃Y:Nat⦄ ⦃R:Result->Shared->Prop⦄ (aI:Pos) (_:Y<=K) (_:T.fin h₀ Y (PE.fin E d os h₀ Y R Γ)),am E h₀ Y R d os ⟨Γ,aI,[],t,m,n,tk⟩
noncomputable def dW.OF {d:Drawn}{os:OsState}(P:dW d os):Type:=Pos->P.T.O (Bool×Nat×Ctx×Nat×Bool×gt×Mm×Nat×Nat) Unit
noncomputable def dW.lf {d:Drawn}{os:OsState}(P:dW d os) (fuel:Nat) (hs:List Nat) (hh:List (List Nat)) (new:List Nat):P.OF:=
 fun p=>P.T.lhs (IR P.K new) ⟨P.Γ,p,[],P.t,P.m,P.n,P.tk⟩ fuel hs hh [] Unit (fun _=>()) 0
noncomputable def dW.rf {d:Drawn}{os:OsState}(P:dW d os) (fuel:Nat) (hs:List Nat) (hh:List (List Nat)) (new:List Nat):P.OF:=
 fun p=>P.T.rhs (IS P.K new P.Γ) ⟨P.Γ,p,[],P.t,P.m,P.n,P.tk⟩ fuel hs hh [] Unit () 0
theorem pc {d:Drawn}{os:OsState}{P:dW d os}(fuel:Nat) (hs:List Nat) (hh:List (List Nat)) (new:List Nat) (H:P.lf fuel hs hh new=P.rf fuel hs hh new) (eg:P.E.nb=true:=by rfl):P.ok:=by
 cases P
 exact fun _ _ _ p hk F=>dj eg fuel (TE.tel _ hh) hs _ (ir _ hh (congrFun H p) fun o _ _=>trivial) (TE.valid _ _ _ _ hh F) (jy (DC hk) _ hh (congrFun H p) F)
section
variable {d:Drawn}{os:OsState}
noncomputable def DD (P:Bool->dW d os):Type:=(P true).OF×(P false).OF
noncomputable def DE (P:Bool->dW d os) (fuel:Nat) (hs:List Nat) (hh:List (List Nat)) (new:List Nat):DD P:=((P true).lf fuel hs hh new,(P false).lf fuel hs hh new)
noncomputable def DF (P:Bool->dW d os) (fuel:Nat) (hs:List Nat) (hh:List (List Nat)) (new:List Nat):DD P:=((P true).rf fuel hs hh new,(P false).rf fuel hs hh new)
theorem GF {P:Bool->dW d os}(fuel:Nat) (hs:List Nat) (hh:List (List Nat)) (new:List Nat) (H:DE P fuel hs hh new=DF P fuel hs hh new) (eg:∀ b,(P b).E.nb=true:=by intro;rfl):∀ b,(P b).ok:=by
 obtain ⟨h1,h2⟩:=Prod.ext_iff.mp H
 intro b
 cases b
 ·exact pc fuel hs hh new h2 (eg _)
 ·exact pc fuel hs hh new h1 (eg _)
noncomputable def GG (P:Bool->Bool->dW d os):Type:=DD (P true)×DD (P false)
noncomputable def GH (P:Bool->Bool->dW d os) (fuel:Nat) (hs:List Nat) (hh:List (List Nat)) (new:List Nat):GG P:=(DE (P true) fuel hs hh new,DE (P false) fuel hs hh new)
noncomputable def GI (P:Bool->Bool->dW d os) (fuel:Nat) (hs:List Nat) (hh:List (List Nat)) (new:List Nat):GG P:=(DF (P true) fuel hs hh new,DF (P false) fuel hs hh new)
theorem GJ {P:Bool->Bool->dW d os}(fuel:Nat) (hs:List Nat) (hh:List (List Nat)) (new:List Nat) (H:GH P fuel hs hh new=GI P fuel hs hh new) (eg:∀ c b,(P c b).E.nb=true:=by intros;rfl):∀ c b,(P c b).ok:=by
 obtain ⟨h1,h2⟩:=Prod.ext_iff.mp H
 intro c b
 cases c
 ·exact GF fuel hs hh new h2 (eg _) b
 ·exact GF fuel hs hh new h1 (eg _) b
end
noncomputable def bJ (v:Value):Value:=match v with
 | .int i _=>.int i 0
 | .str s _=>.str s 0
 | v=>v
theorem bx {v:Value}{a:Int}(h:bJ v=.int a 0):∃ t,v=.int a t:=by
 unfold bJ at h;split at h
 ·cases h;exact ⟨_,rfl⟩
 ·cases h
 ·rename_i x _;subst h;exact ⟨_,rfl⟩
theorem cx {v:Value}{a:Addr}(h:bJ v=.ref a):v=.ref a:=by
 unfold bJ at h;split at h
 ·cases h
 ·cases h
 ·exact h
noncomputable def cN (c:Code):Option (String×List Value):=match c with
 | .builtin id args=>match args with
  | ⟨pos,kw⟩=>match kw with
   | []=>some (id,pos.map bJ)
   | _::_=>none
 | _=>none
theorem cV {c:Code}{id:String}{vs:List Value}(h:cN c=some (id,vs)):∃ pos,c=.builtin id ⟨pos,[]⟩/\pos.map bJ=vs:=by
 unfold cN at h
 split at h
 ·split at h
  split at h
  ·cases h;exact ⟨_,rfl,rfl⟩
  ·cases h
 ·cases h
theorem fm {vs:List Value}{x y:Value}(h:vs.map bJ=[x,y]):∃ a b,vs=[a,b]/\bJ a=x/\bJ b=y:=by
 obtain ⟨a,l,rfl,e1,h⟩:=List.map_eq_cons_iff.mp h
 obtain ⟨b,l,rfl,e2,h⟩:=List.map_eq_cons_iff.mp h
 rw [List.map_eq_nil_iff.mp h]
 exact ⟨a,b,rfl,e1,e2⟩
theorem i3 {vs:List Value}{x y z:Value}(h:vs.map bJ=[x,y,z]):∃ a b c,vs=[a,b,c]/\bJ a=x/\bJ b=y/\bJ c=z:=by
 obtain ⟨a,l,rfl,e1,h⟩:=List.map_eq_cons_iff.mp h
 obtain ⟨b,c,rfl,e2,e3⟩:=fm h
 exact ⟨a,b,c,rfl,e1,e2,e3⟩
noncomputable def hV (i:Nat) (q:bC):Value:=match q.code with
 | .builtin _ args=>nthV args.pos i
 | .call _ args=>nthV args.pos i
 | _=>.none
where nthV (l:List Value):Nat->Value:=@List.rec Value (fun _=>Nat->Value) (fun _=>.none) (fun x _ ih i=>@Nat.rec (fun _=>Value) x (fun j _=>ih j) i) l
section
variable {E:En}{d:Drawn}{os:OsState}
noncomputable def aL.leaf {L:Type}(X:Type) (x0:X) (look:bC->L) (v:L) (val:X->bC->Value) (m':X->bC->Mm) (n' aF:X->bC->Nat) (says:X->Prop)
  (H:∀ (h₀:Heap) (Y:Nat) (q:bC) (Q:Result->Shared->Prop) (h:Heap) (g:Array GenState),look q=v->q.Γ.code=q.code->E.G g->ag E h₀ Y q.m q.n h->
   (∀ x,says x->∀ h' g',E.G g'->ag E h₀ Y (m' x q) (n' x q) h'->Q (.ok (.ret (val x q))) ⟨h',g',d,aF x q,os⟩)->wpCode (Mo E) q.Γ Q q.p ⟨h,g,d,q.tk,os⟩):aL E d os where
 X:=X
 x0:=x0
 L:=L
 look:=look
 v:=v
 ans x q:=⟨.pure (.done (.ret (val x q))),q.p,m' x q,n' x q,aF x q,[]⟩
 says:=says
 holds h₀ Y hs:=fun q Q h g e hc hg hr k=>H h₀ Y q Q h g e hc hg hr fun x sx h' g' bQ aJ=>k x sx h' g' bQ aJ
noncomputable def wu (id:String) {b:Builtin}(hb:entryFor table id=some b) (f:Int->Int->Bool) (hf:∀ a t c u,b ⟨[.int a t,.int c u],[]⟩=ret (.bool (f a c))) (a c:Int) (r:Bool) (hr:f a c=r):aL E d os:=
 aL.leaf Unit () (fun q=>cN q.code) (some (id,[.int a 0,.int c 0])) (fun _ _=>.bool r) (fun _ q=>q.m) (fun _ q=>q.n) (fun _ q=>q.tk) (fun _=>True) (by
  intro h₀ Y q Q h g e hc hg aJ k
  obtain ⟨pos,e1,e2⟩:=cV e
  obtain ⟨x,y,rfl,h1,h2⟩:=fm e2
  obtain ⟨t,rfl⟩:=bx h1
  obtain ⟨u,rfl⟩:=bx h2
  refine aP (hc.trans e1) hb ?_
  rw [hf,hr]
  exact k () trivial h g hg aJ)
noncomputable abbrev DG (a c:Int) (r:Bool) (hr:decide (a < c)=r):aL E d os:=wu "int.__lt__" F.entry_int_lt (fun a b=>decide (a < b)) (fun _ _ _ _=>rfl) a c r hr
noncomputable abbrev jz (a c:Int) (r:Bool) (hr:decide (a>c)=r):aL E d os:=wu "int.__gt__" F.entry_int_gt (fun a b=>decide (a>b)) (fun _ _ _ _=>rfl) a c r hr
noncomputable abbrev DH (a c:Int) (r:Bool) (hr:(a != c)=r):aL E d os:=wu "int.__ne__" F.entry_int_ne (fun a b=>a != b) (fun _ _ _ _=>rfl) a c r hr
noncomputable def dy (es:Array DictEntry) (k:Int) (key v:Value):Array DictEntry:=match es.findIdx? fun e=>Value.isInt k e.key with
 | some i=>es.modify i fun e=>{e with val:=v}
 | none=>es.push ⟨hashInt k,key,v⟩
noncomputable def cC (es:Array DictEntry) (ep:Nat) (k:Int):Nat:=match es.findIdx? fun e=>Value.isInt k e.key with
 | some _=>ep
 | none=>ep+1
noncomputable def lL (o:Obj) (es:Array DictEntry) (ep:Nat) (k:Int) (key v:Value):Obj:=⟨o.cls,o.dict,.dict (dy es k key v) (cC es ep k),o.slots⟩
noncomputable def bK (i:Nat) (a:Addr) (o:Obj) (es:Array DictEntry) (ep:Nat) (hd:o.data=.dict es ep) (hk:IntKeys es) (k:Int) (v:Value) (hf:findBy Value.isInt es k=some v):aL E d os:=
 aL.leaf Unit () (fun q=>(cN q.code,ad q.m i)) (some ("dict.__getitem__",[.ref a,.int k 0]),some (a,o)) (fun _ _=>v) (fun _ q=>q.m) (fun _ q=>q.n) (fun _ q=>q.tk+1) (fun _=>True) (by
  intro h₀ Y q Q h g e hc hg hr k
  obtain ⟨e1,e2⟩:=Prod.ext_iff.mp e
  obtain ⟨pos,e3,e4⟩:=cV e1
  obtain ⟨x,y,rfl,h1,h2⟩:=fm e4
  obtain rfl:=cx h1
  obtain ⟨u,rfl⟩:=bx h2
  exact nL (hc.trans e3) (hr.own _ _ _ e2) hd hk hf (k () trivial h g hg hr))
noncomputable def i4 (dv key:Value):Sem Fin:=R.bindR (Fast.tw9201129301070521445 dv (Str.ofString "__missing__") [key] []) fun r=>match r with
 | some r=>.rule "dict.__getitem__.missing-hook" fun _=>.pure (.done (.ret r))
 | none=>.unsupported "no __missing__"
theorem mG (a:Addr) (key:Value):i4 (.ref a) key=iG a key:=by
 unfold i4 iG
 rw [<- R.bindR_eq,<- Fast.te9201129301070521445]
 rfl
noncomputable def cD (i:Nat) (a:Addr) (o:Obj) (es:Array DictEntry) (ep:Nat) (c:Addr) (kO:o.cls=.ref c) (hd:o.data=.dict es ep) (hk:IntKeys es) (k:Int) (hf:findBy Value.isInt es k=none):aL E d os where
 X:=Pos
 x0:=default
 L:=_
 look q:=(cN q.code,ad q.m i)
 v:=(some ("dict.__getitem__",[.ref a,.int k 0]),some (a,o))
 ans p q:=⟨i4 (.ref a) (hV 1 q),p,q.m,q.n,q.tk+1,[]⟩
 says _:=True
 holds:=by
  intro h₀ Y hs q Q h g e hc hg hr kk
  obtain ⟨e1,e2⟩:=Prod.ext_iff.mp e
  obtain ⟨pos,e3,e4⟩:=cV e1
  obtain ⟨x,y,rfl,h1,h2⟩:=fm e4
  obtain rfl:=cx h1
  obtain ⟨u,rfl⟩:=bx h2
  refine mF (hc.trans e3) (hr.own _ _ _ e2) kO hd hk hf fun p=>?_
  have z:=kk p trivial h g hg hr
  dsimp only at z
  have ea:hV 1 q=.int k u:=by unfold hV;rw [e3];rfl
  rw [mG,ea] at z
  exact z
theorem sK {prog:Program}{w:World}{Γ:Ctx}{R:Result->Shared->Prop}{p:Pos}{s:Shared}{d:Addr}{o:Obj}{es:Array DictEntry}{ep:Nat}{k:Int}{t:Tok}{df:Value}(aV:Γ.code=.builtin "dict.get" ⟨[.ref d,.int k t,df],[]⟩)
  (ho:s.heap.get? d=some o) (hd:o.data=.dict es ep) (hk:IntKeys es) (h:R (.ok (.ret ((findBy Value.isInt es k).getD df))) {s with toks:=s.toks+1}):wpCode (model prog w) Γ R p s:=by
 refine aP aV F.entry_dict_get ?_
 show wp _ _ (dictGet d (.int k t)>>=_) _ _ _ _
 rw [Sem.wp_bind']
 refine iq ho hd hk fun p'=>?_
 cases hf:findBy Value.isInt es k with
 | some v=>rw [hf] at h;exact h
 | none=>
  rw [hf] at h
  show wp _ _ (Builtin.Dict.missed d (.int k t)>>=_) _ _ _ _
  rw [Sem.wp_bind']
  refine Sem.wp_mono _ _ _ (fun a p' s' h'=>?_) (fun e p' s' h'=>h'.elim) _ _ (bm (Q:=fun a s'=>a=none/\s'={s with toks:=s.toks+1}) (E:=fun _ _=>False) (wpAny_missed_int ⟨rfl,rfl⟩) p')
  obtain ⟨rfl,rfl⟩:=h'
  exact h
noncomputable def ko (i:Nat) (a:Addr) (o:Obj) (es:Array DictEntry) (ep:Nat) (hd:o.data=.dict es ep) (hk:IntKeys es) (k:Int) (df:Value) (v:Option Value) (hf:findBy Value.isInt es k=v):aL E d os:=
 aL.leaf Unit () (fun q=>(cN q.code,ad q.m i)) (some ("dict.get",[.ref a,.int k 0,df]),some (a,o)) (fun _ q=>v.getD (hV 2 q)) (fun _ q=>q.m) (fun _ q=>q.n) (fun _ q=>q.tk+1) (fun _=>True) (by
  intro h₀ Y q Q h g e hc hg hr kk
  obtain ⟨e1,e2⟩:=Prod.ext_iff.mp e
  obtain ⟨pos,e3,e4⟩:=cV e1
  obtain ⟨x,y,z,rfl,h1,h2,_⟩:=i3 e4
  obtain rfl:=cx h1
  obtain ⟨u,rfl⟩:=bx h2
  refine sK (hc.trans e3) (hr.own _ _ _ e2) hd hk ?_
  rw [hf]
  have ez:hV 2 q=z:=by unfold hV;rw [e3];rfl
  have k2:=kk () trivial h g hg hr
  rw [ez] at k2
  exact k2)
noncomputable def m6 (T:BT) (c:Nat):Bool:=match T.get c with
 | some co=>match co.data with
  | .cls cd=>match cd.mro with
   | []=>false
   | x::l=>lr ((x::l).contains (.type "collections.OrderedDict"))
  | _=>false
 | none=>false
noncomputable def gP (E:En) (o:Obj):Prop:=o.cls=.type "dict"∨∃ c,o.cls=.ref c/\m6 E.T c=true/\gL c E.mu=false
theorem ef {E:En}{A:Around}{name:String}{args:Args}{X:Value->Shared->Prop}{Q:Unit->Shared->Prop}{s:Shared}{d:Addr}{o:Obj}(hh:args.pos.headD .none=.ref d) (ho:s.heap.get? d=some o) (hc:gP E o)
  (base:∀ a o,E.T.get a=some o->gL a E.mu=false->s.heap.get? a=some o) (h:Q () s):wpAny (Mo E) A (Builtin.Dict.notOrdered name args) Q X s:=by
 rcases hc with hc | ⟨c,hc,hp,hm⟩
 ·exact wpAny_notOrdered_dict (by rw [hh];exact ⟨o,ho,hc⟩) h
 ·unfold Builtin.Dict.notOrdered
  split
  ·rw [hh]
   unfold m6 at hp
   split at hp
   case h_2=>cases hp
   rename_i co v9
   split at hp
   case h_2=>cases hp
   rename_i cd hcd
   split at hp
   case h_1=>cases hp
   rename_i x l hml
   have IT:=iD hp
   have IU:=base _ _ v9 hm
   have ht:∀ (Q:Value->Shared->Prop),Q (.ref c) s->wpAny (Mo E) A (typeOf (.ref d)) Q X s:=fun Q hQ=>by
    unfold typeOf
    refine wpAny_bind (wpAny_loadPart ho ?_)
    rw [hc];exact wpAny_pure hQ
   refine wpAny_bind (ht _ ?_)
   rw [if_pos (show (Value.ref c != Value.type "dict")=true from rfl)]
   unfold isInstance isSubtype
   refine wpAny_bind (wpAny_bind (ht _ ?_))
   have IV:∀ (Q:ClassData->Shared->Prop),Q cd s->wpAny (Mo E) A (classData c) Q X s:=fun Q hQ=>by
    unfold classData
    refine wpAny_bind (wpAny_loadPart IU ?_)
    rw [hcd];exact wpAny_pure hQ
   refine wpAny_bind (wpAny_bind (IV _ (wpAny_pure ?_)))
   rw [hml]
   simp only [List.isEmpty_cons,Bool.false_eq_true,if_false]
   refine wpAny_pure ?_
   rw [IT]
   exact wpAny_pure h
  ·exact wpAny_pure h
theorem DI {E:En}{Γ:Ctx}{R:Result->Shared->Prop}{p:Pos}{s:Shared}{d:Addr}{o:Obj}{es:Array DictEntry}{ep:Nat}{k:Int}{t:Tok}{v:Value}(aV:Γ.code=.builtin "dict.__setitem__" ⟨[.ref d,.int k t,v],[]⟩)
  (ho:s.heap.get? d=some o) (hd:o.data=.dict es ep) (hk:IntKeys es) (aG:es.size<=sizeLine) (kO:gP E o) (base:∀ a o,E.T.get a=some o->gL a E.mu=false->s.heap.get? a=some o)
  (h:∀ h',h'.get? d=some (lL o es ep k (.int k t) v)->Heap.SameBut d s.heap h'->R (.ok (.ret .none)) {s with heap:=h',toks:=s.toks+1}):wpCode (Mo E) Γ R p s:=by
 refine aP aV entry_dict_setitem ?_
 show wp _ _ (Builtin.Dict.notOrdered "__setitem__" ⟨[.ref d,.int k t,v],[]⟩>>=fun _=>dictSet d (.int k t) v>>=fun _=>ret .none) _ _ _ _
 rw [Sem.wp_bind']
 refine Sem.wp_mono _ _ _ (fun a p' s1 h'=>?_) (fun e p' s' h'=>h'.elim) _ _ (bm (Q:=fun a s1=>s1=s) (E:=fun _ _=>False) (ef rfl ho kO base rfl) p)
 rw [h',Sem.wp_bind']
 refine Sem.wp_mono _ _ _ (fun a p' s' h'=>h' p') (fun e p' s' h'=>h'.elim) _ _ (bm (Q:=fun a s'=>∀ p,wp (Mo E) Γ (ret .none) (finPost (Mo E) Γ R) (fun e _ s'=>R (.error e) s') p s') (E:=fun _ _=>False) ?_ p')
 unfold dictSet
 try with_reducible refine wpAny_holding ?_
 refine wpAny_bind (wpAny_pyHash_int ?_)
 unfold dictSetHashed
 try with_reducible refine wpAny_holding ?_
 refine wpAny_bind (wpAny_dictFind_int (s:={s with toks:=s.toks+1}) ho hd hk ?_)
 cases hi:es.findIdx? fun e=>Value.isInt k e.key with
 | some i=>
  refine wpAny_bind (wpAny_rule (wpAny_bind (wpAny_updateDict (s:={s with toks:=s.toks+1}) ho hd ?_ (by simp))))
  refine wpAny_point fun p=>h _ ?_ (Heap.SameBut.update ..)
  obtain ⟨c,dd,dt,sl⟩:=o
  simp only at hd;subst hd
  rw [Heap.get?_update_self _ ho rfl]
  unfold lL dy cC
  rw [hi];rfl
 | none=>
  refine wpAny_bind (wpAny_rule (wpAny_updateDictKeys (s:={s with toks:=s.toks+1}) ho hd (fun p=>h _ ?_ (Heap.SameBut.update ..)) aG (by simp)))
  obtain ⟨c,dd,dt,sl⟩:=o
  simp only at hd;subst hd
  rw [Heap.get?_update_self _ ho rfl]
  unfold lL dy cC
  rw [hi];rfl
noncomputable def d8 (i:Nat) (a:Addr) (o:Obj) (es:Array DictEntry) (ep:Nat) (hd:o.data=.dict es ep) (hk:IntKeys es) (aG:es.size<=sizeLine) (kO:gP E o) (k:Int) (v:Value):aL E d os:=
 aL.leaf Unit () (fun q=>(cN q.code,ad q.m i)) (some ("dict.__setitem__",[.ref a,.int k 0,v]),some (a,o)) (fun _ _=>.none) (fun _ q=>cg q.m i (lL o es ep k (hV 1 q) (hV 2 q))) (fun _ q=>q.n) (fun _ q=>q.tk+1) (fun _=>True) (by
  intro h₀ Y q Q h g e hc hg hr kk
  obtain ⟨e1,e2⟩:=Prod.ext_iff.mp e
  obtain ⟨pos,e3,e4⟩:=cV e1
  obtain ⟨x,y,z,rfl,h1,h2,_⟩:=i3 e4
  obtain rfl:=cx h1
  obtain ⟨u,rfl⟩:=bx h2
  have ey:hV 1 q=.int k u:=by unfold hV;rw [e3];rfl
  have ez:hV 2 q=z:=by unfold hV;rw [e3];rfl
  refine DI (hc.trans e3) (hr.own _ _ _ e2) hd hk aG kO hr.base fun h' wv cB=>?_
  have z:=hr.chg e2 wv (cB.1.trans hr.size) (Nat.le_refl _) fun b x hb hx=>(cB.2 b hb).trans hx
  rw [<- ey,<- ez] at z
  exact kk () trivial h' g hg z)
end
section
variable {N dd di ep i ii it n tk:Nat}{Q:Flow->Pos->Shared->Prop}{X:Value->Pos->Shared->Prop}{body l aW rest:List Stmt}{es:Array DictEntry}{g:Array GenState}{h:Heap}{m:Mm}{od:Obj}{ok ov v:Value}{p:Pos}{Γ:Ctx}
noncomputable def c9 (l:List Stmt) (env:Env):Sem Fin:=R.bindR (Fast.tw12563942051412417395 l env) fun fl=>.pure (.done fl)
theorem DJ (l:List Stmt) (env:Env):c9 l env=execs l env>>=fun fl=>(.pure (.done fl):Sem Fin):=by
 unfold c9;rw [<- R.bindR_eq,<- Fast.te12563942051412417395];rfl
theorem fb {M:Model}{Γ:Ctx}{env:Env}{rest:List Stmt}{Q:Flow->Pos->Shared->Prop}{X:Value->Pos->Shared->Prop}:∀ (l:List Stmt) (p:Pos) (s:Shared),
  wp M Γ (execs l env) (fun f p s=>match f with | .next=>wp M Γ (execs rest env) Q X p s | f=>Q f p s) X p s->wp M Γ (execs (l++rest) env) Q X p s
 | [],p,s,h=>h
 | st::l,p,s,h=>by
  have h:wp M Γ (exec st env>>=fun f=>match f with | .next=>execs l env | f=>pure f) _ X p s:=h
  show wp M Γ (exec st env>>=fun f=>match f with | .next=>execs (l++rest) env | f=>pure f) Q X p s
  rw [Sem.wp_bind'] at h ⊢
  refine Sem.wp_mono M Γ _ (fun f p' s' h=>?_) (fun _ _ _ h=>h) _ _ h
  cases f with
  | next=>exact fb l p' s' h
  | brk=>exact h
  | cont=>exact h
  | ret v=>exact h
section
variable {E:En}{h₀:Heap}{Y:Nat}{d:Drawn}{os:OsState}
noncomputable def DK (E:En) (Γ:Ctx) (rest:List Stmt) (env:Env) (Q:Flow->Pos->Shared->Prop) (X:Value->Pos->Shared->Prop):Result->Shared->Prop
 | .ok .next,s=>∀ p,wp (Mo E) Γ (execs rest env) Q X p s
 | .ok f,s=>∀ p,Q f p s
 | .error e,s=>∀ p,X e p s
theorem cO {env:Env}(hg:E.G g) (hr:ag E h₀ Y m n h)
  (w:am E h₀ Y (DK E Γ rest env Q X) d os ⟨Γ,p,[],c9 l env,m,n,tk⟩):wp (Mo E) Γ (execs (l++rest) env) Q X p ⟨h,g,d,tk,os⟩:=by
 refine fb l p _ ?_
 have z:=w h g hg hr
 rw [dO] at z
 rw [DJ,Sem.wp_bind'] at z
 refine Sem.wp_mono _ _ _ (fun f p' s' h=>?_) (fun e p' s' h=>h p') _ _ z
 cases f<;>exact h p'
theorem rm {env : Env} {R : Result -> Shared -> Prop} {s : Shared} (aV : Γ.code = .func body env)
    (h : wp (Mo E) Γ (execs body env) (fun f _ s' => R (.ok (.ret (match f with | .ret v => v | _ => .none))) s') (fun _ _ _ => False) p s) : wpCode (Mo E) Γ R p s := by
  refine (wpCode_iff_wp _ _ _ _ _).mpr ?_
  rw [aV]
  show wp (Mo E) Γ (do point; match <- (execs body env).onRaise (leaving env) with | .ret v => ret v | _ => ret .none) _ _ _ _
  rw [Sem.wp_bind', Sem.wp_cmd_point, Sem.wp_bind', Sem.wp_onRaise]
  refine Sem.wp_mono _ _ _ (fun f p' s' h => ?_) (fun e p' s' h => h.elim) _ _ h
  cases f <;> exact h
theorem o5 {env : Env} {R : Result -> Shared -> Prop} {s : Shared} (aV : Γ.code = .block [] env) (h : R (.ok .next) s) : wpCode (Mo E) Γ R p s := by
  refine (wpCode_iff_wp _ _ _ _ _).mpr ?_
  rw [aV]
  show wp (Mo E) Γ ((execs [] env).onRaise (fun x => do noteFrame x env; theTreesLotGoes x) >>= fun fl => (pure (Fin.done fl) : Sem Fin)) _ _ _ _
  rw [Sem.wp_bind', Sem.wp_onRaise]
  exact h
noncomputable def ic (target:Expr) (v:Value) (l:List Stmt) (env:Env):Sem Fin:=R.bindR (Fast.tw17772580674575903948 target env v) fun _=>R.bindR (Fast.tw12563942051412417395 l env) fun fl=>.pure (.done fl)
theorem DL (target:Expr) (v:Value) (l:List Stmt) (env:Env):ic target v l env=assign target env v>>=fun _=>execs l env>>=fun fl=>(.pure (.done fl):Sem Fin):=by
 unfold ic;rw [<- R.bindR_eq,<- Fast.te12563942051412417395,<- Fast.te17772580674575903948];rfl
noncomputable def gm (E:En) (Γ:Ctx) (Fv:Code) (R:Result->Shared->Prop):Flow->Pos->Shared->Prop
 | .next,p,s=>wpCode (Mo E) (Γ.goto Fv) R p s
 | .cont,p,s=>wpCode (Mo E) (Γ.goto Fv) R p s
 | .brk,_,s=>R (.ok .next) s
 | .ret v,_,s=>R (.ok (.ret v)) s
theorem d9 {target:Expr}{it:Value}{env:Env}{R:Result->Shared->Prop}
  (hB:body=l++rest) (w:am E h₀ Y (DK E Γ rest env (gm E Γ (.forLoop target it body aW env) R) (fun _ _ _=>False)) d os ⟨Γ,p,[],ic target v l env,m,n,tk⟩):
  am E h₀ Y R d os ⟨Γ,p,[],eZ target it v body aW env,m,n,tk⟩:=by
 subst hB
 intro h g hg hr
 have z:=w h g hg hr
 rw [dO] at z ⊢
 rw [<- ev]
 rw [DL] at z
 unfold gv
 simp only [Sem.wp_bind',Sem.wp_onRaise] at z ⊢
 refine Sem.wp_mono _ _ _ (fun _ p' s' h=>?_) (fun e p' s' h=>(h p').elim) _ _ z
 refine fb l p' _ ?_
 refine Sem.wp_mono _ _ _ (fun f p' s' h=>?_) (fun e p' s' h=>(h p').elim) _ _ h
 have fin:∀ (X:Value->Pos->Shared->Prop) f p' s',gm E Γ (.forLoop target it (l++rest) aW env) R f p' s'->wp (Mo E) Γ (match f with
   | .next | .cont=>again (.forLoop target it (l++rest) aW env)
   | .brk=>pure (.done .next)
   | .ret v=>pure (.done (.ret v)):Sem Fin) (finPost (Mo E) Γ R) X p' s':=by
  intro X f p' s' hf
  cases f with
  | next=>exact ⟨rfl,hf⟩
  | cont=>exact ⟨rfl,hf⟩
  | brk=>exact hf
  | ret v=>exact hf
 cases f with
 | next=>
  refine Sem.wp_mono _ _ _ (fun f p' s' h=>?_) (fun e p' s' h=>h.elim) _ _ (h p')
  exact fin _ f p' s' h
 | cont=>exact ⟨rfl,h p'⟩
 | brk=>exact h p'
 | ret v=>exact h p'
noncomputable def cy (d i n ep:Nat) (o ok ov:Value):Obj:=⟨.type "dict_itemiterator",none,.fields #[o,.bool false,.ref d,.int i 0,.int n 0,.int ep 0,ok,ov],#[]⟩
noncomputable def de (x y:Value):Obj:=⟨.type "tuple",none,.seq #[x,y] 0,#[]⟩
noncomputable abbrev i6 (e:Expr):Prop:=∀ it v,letOwnedTupleGo e it v=letOwnedTupleGo (.Tuple [] 0 ⟨0,0,0,0⟩) it v
theorem ew {target:Expr}{env:Env}{R:Result->Shared->Prop}{e:DictEntry}
  (GK:i6 target) (aV:Γ.code=.forLoop target (.ref it) body aW env) (hg:E.G g) (hr:ag E h₀ Y m n h) (h1:ad m ii=some (it,cy dd i N ep .none ok ov)) (h2:ad m di=some (dd,od)) (hd:od.data=.dict es ep) (hN:es.size=N)
  (hx:es[i]?=some e)
  (w:∀ p,am E h₀ Y R d os ⟨Γ,p,[],eZ target (.ref it) (.ref n) body aW env,d7 (cg m ii (cy dd (i+1) N ep .none e.key e.val)) (n,de e.key e.val),n+1,tk⟩) (p:Pos):
  wpCode (Mo E) Γ R p ⟨h,g,d,tk,os⟩:=by
 refine (wpCode_iff_wp _ _ _ _ _).mpr ?_
 rw [aV]
 refine ju ?_
 refine Sem.wp_mono (Mo E) Γ _ (fun a p' s' h'=>?_) (fun e p' s' h'=>h') _ _ (bm (Q:=fun o s'=>o=some (.ref h.objs.size)/\∀ p,wp (Mo E) Γ (fj target (.ref it) (.ref h.objs.size) body aW env) (finPost (Mo E) Γ R) (fun e _ s'=>R (.error e) s') p s') (E:=fun _ _=>False) ?_ _)
 ·obtain ⟨rfl,h'⟩:=h';exact h' p'
 have hit:IsItemIter h it dd i N ep ok ov:=hr.own _ _ _ h1
 have eM:=hr.own _ _ _ h2
 have bD:it≠dd:=fun q=>by
  subst q
  have:=(eM.symm.trans (hr.own _ _ _ h1))
  injection this with this
  rw [this] at hd;cases hd
 refine e8 hit eM hd hN hx fun h' he ht hs same=>⟨rfl,fun p=>?_⟩
 refine gc ?_
 refine Sem.wp_mono _ _ _ (fun a p' s' h'=>h' p') (fun e p' s' h'=>h') _ _ (bm (Q:=fun _ s'=>∀ p,wp (Mo E) Γ (gv target (.ref it) (.ref h.objs.size) body aW env) _ _ p s') (E:=fun _ _=>False) ?_ p)
 rw [GK _ _]
 refine wpAny_letOwnedTupleGo_items (he:IsItemIterOut h' it dd (i+1) N ep e.key e.val h.objs.size) fun h2 um rn p=>?_
 rw [hr.size] at *
 have r1:ag E h₀ Y (cg m ii (cy dd (i+1) N ep .none e.key e.val)) (n+1) h2:=by
  refine hr.chg h1 um (rn.1.trans hs) (Nat.le_succ _) fun b x hb hx=>(rn.2 b hb).trans (same b x hb hx)
 have ww:n≠it:=fun q=>Nat.lt_irrefl _ (q▸hr.lt h1)
 have r2:=r1.know (b:=n) (o:=de e.key e.val) ((rn.2 n ww).trans ht) hr.start (fun i o' q=>by
  rw [dg] at q
  split at q
  ·rw [h1] at q;cases q;exact ww rfl
  ·exact Nat.lt_irrefl _ (hr.lt q)) (hr.lowT n (Nat.le_refl _))
 have z:=w p h2 g hg r2
 rw [dO] at z
 rw [<- ev] at z
 exact z
theorem fS {target:Expr}{env:Env}{R:Result->Shared->Prop}
  (aV:Γ.code=.forLoop target (.ref it) body [] env) (hh:Γ.handled=none) (hg:E.G g) (hr:ag E h₀ Y m n h) (h1:ad m ii=some (it,cy dd i N ep .none ok ov)) (h2:ad m di=some (dd,od)) (hd:od.data=.dict es ep) (hN:es.size=N) (hx:N<=i)
  (fin:∀ h' n' o',n<=n'->ag E h₀ Y (cg m ii o') n' h'->R (.ok .next) ⟨h',g,d,tk,os⟩) (p:Pos):wpCode (Mo E) Γ R p ⟨h,g,d,tk,os⟩:=by
 refine (wpCode_iff_wp _ _ _ _ _).mpr ?_
 rw [aV]
 refine ju ?_
 have hit:IsItemIter h it dd i N ep ok ov:=hr.own _ _ _ h1
 have eM:=hr.own _ _ _ h2
 refine Sem.wp_mono (Mo E) Γ _ (fun a p' s' h'=>?_) (fun e p' s' h'=>h'.elim) _ _ (bm (Q:=fun o s'=>o=none/\R (.ok .next) s') (E:=fun _ _=>False)
  (hO (A:=dk Γ) hh hit eM hd hN hx fun h' o' wv he hs=>⟨rfl,fin h' h'.objs.size o' (hr.size▸hs) (hr.chg h1 wv rfl (hr.size▸hs) fun b x hb hx=>he b x hb hx)⟩) _)
 obtain ⟨rfl,h'⟩:=h'
 exact ⟨rfl,o5 rfl h'⟩
end
end
noncomputable def m7 (l:List Nat):Nat->Nat->Option Nat:=@List.rec Nat (fun _=>Nat->Nat->Option Nat) (fun _ _=>none) (fun x _ ih i s=>@Bool.rec (fun _=>Option Nat) (ih i (s+1)) (some s) (Nat.beq i x)) l
noncomputable def sL (is:List Nat) (m':Mm) (m:Mm):Nat->Mm:=@List.rec (Addr×Obj) (fun _=>Nat->Mm) (fun _=>[]) (fun x _ ih s=>(x.1,match m7 is s 0 with
 | some j=>match ad m' j with
  | some y=>y.2
  | none=>x.2
 | none=>x.2)::ih (s+1)) m
noncomputable def lN (m:Mm):Nat->Mm:=@List.rec (Addr×Obj) (fun _=>Nat->Mm) (fun _=>[]) (fun x r ih k=>@Nat.rec (fun _=>Mm) (x::r) (fun j _=>ih j) k) m
noncomputable def b8 (m r:Mm):Mm:=@List.rec (Addr×Obj) (fun _=>Mm) r (fun x _ ih=>x::ih) m
noncomputable def cW (m:Mm) (is:List Nat) (m':Mm):Mm:=b8 (sL is m' m 0) (lN m' is.length)
theorem lO:∀ (l:List Nat) (i s j:Nat),m7 l i s=some j->s<=j/\l[j - s]?=some i
 | [],_,_,_,h=>nomatch h
 | x::l,i,s,j,h=>by
  have h:@Bool.rec (fun _=>Option Nat) (m7 l i (s+1)) (some s) (Nat.beq i x)=some j:=h
  cases q:Nat.beq i x with
  | true=>
   rw [q] at h
   cases h
   rw [Nat.sub_self,Nat.eq_of_beq_eq_true q]
   exact ⟨Nat.le_refl _,rfl⟩
  | false=>
   rw [q] at h
   obtain ⟨a,b⟩:=lO l i (s+1) j h
   have e:j - s=(j - (s+1))+1:=by lia
   rw [e]
   exact ⟨by lia,b⟩
theorem lP:∀ (l:List Nat) (i s:Nat),m7 l i s=none->i ∉ l
 | [],_,_,_=>fun h=>nomatch h
 | x::l,i,s,h=>by
  have h:@Bool.rec (fun _=>Option Nat) (m7 l i (s+1)) (some s) (Nat.beq i x)=none:=h
  cases q:Nat.beq i x with
  | true=>rw [q] at h;cases h
  | false=>
   rw [q] at h
   have b:=lP l i (s+1) h
   intro hm
   rcases List.mem_cons.mp hm with rfl | hm
   ·simp at q
   ·exact b hm
theorem fT (is:List Nat) (m':Mm):∀ (m:Mm) (s i:Nat),ad (sL is m' m s) i=(ad m i).map fun x=>(x.1,match m7 is (s+i) 0 with
 | some j=>match ad m' j with
  | some y=>y.2
  | none=>x.2
 | none=>x.2)
 | [],_,_=>rfl
 | x::m,s,0=>rfl
 | x::m,s,i+1=>by
  show ad (sL is m' m (s+1)) i=Option.map _ (ad m i)
  rw [fT is m' m (s+1) i]
  have:s+1+i=s+(i+1):=by lia
  rw [this]
theorem iH (is:List Nat) (m':Mm):∀ (m:Mm) (s:Nat),aE (sL is m' m s)=aE m
 | [],_=>rfl
 | x::m,s=>congrArg Nat.succ (iH is m' m (s+1))
theorem kq:∀ (m:Mm) (k i:Nat),ad (lN m k) i=ad m (k+i)
 | [],_,_=>rfl
 | x::m,0,i=>by show ad (x::m) i=_;rw [Nat.zero_add]
 | x::m,k+1,i=>by
  show ad (lN m k) i=_
  rw [kq m k i]
  have:k+1+i=(k+i)+1:=by lia
  rw [this];rfl
theorem dI:∀ (m r:Mm) (i:Nat),ad (b8 m r) i=if i < aE m then ad m i else ad r (i - aE m)
 | [],r,i=>by rw [if_neg (show ¬ i < aE [] from Nat.not_lt_zero _)];rfl
 | x::m,r,0=>by rw [if_pos (show 0 < aE (x::m) from Nat.succ_pos _)];rfl
 | x::m,r,i+1=>by
  show ad (b8 m r) i=_
  rw [dI m r i]
  have e:aE (x::m)=aE m+1:=rfl
  rw [e]
  by_cases h:i < aE m
  ·rw [if_pos h,if_pos (by lia)];rfl
  ·rw [if_neg h,if_neg (by lia)]
   congr 1;lia
theorem m8:∀ (m r:Mm),aE (b8 m r)=aE m+aE r
 | [],r=>(Nat.zero_add _).symm
 | x::m,r=>by show Nat.succ (aE (b8 m r))=Nat.succ (aE m)+aE r;rw [m8 m r];lia
theorem kr {m:Mm}{is:List Nat}{m':Mm}(hl:is.length<=aE m') {i:Nat}{x:Addr×Obj}(h:ad (cW m is m') i=some x):
  (i < aE m/\∃ j y z,is[j]?=some i/\ad m' j=some y/\ad m i=some z/\x=(z.1,y.2))∨(i < aE m/\ad m i=some x/\i ∉ is)∨(aE m<=i/\ad m' (is.length+(i - aE m))=some x):=by
 unfold cW at h
 rw [dI,iH] at h
 split at h
 ·rename_i hi
  rw [fT] at h
  cases q:ad m i with
  | none=>rw [q] at h;cases h
  | some z=>
   rw [q] at h
   simp only [Option.map_some,Nat.zero_add] at h
   injection h with h
   split at h
   ·rename_i j hj
    have lJ:=(lO _ _ _ _ hj).2
    rw [Nat.sub_zero] at lJ
    split at h
    ·rename_i y hy
     exact .inl ⟨hi,j,y,z,lJ,hy,rfl,h.symm⟩
    ·rename_i hy
     obtain ⟨y,DM⟩:=jr m' j (Nat.lt_of_lt_of_le (List.getElem?_eq_some_iff.mp lJ).1 hl)
     rw [hy] at DM;cases DM
   ·rename_i hj
    refine .inr (.inl ⟨hi,by rw [<- h],lP _ _ _ hj⟩)
 ·rename_i hi
  rw [kq] at h
  exact .inr (.inr ⟨Nat.le_of_not_lt hi,h⟩)
theorem iu {m:Mm}{is:List Nat}{m':Mm}{i:Nat}{z:Addr×Obj}(h:ad m i=some z):∃ o,ad (cW m is m') i=some (z.1,o):=by
 unfold cW
 rw [dI,iH,if_pos (gr _ _ _ h),fT,h]
 exact ⟨_,rfl⟩
section
variable {E:En}{h₀:Heap}{Y:Nat}{m:Mm}{n:Nat}{h:Heap}
theorem ag.join (r:ag E h₀ Y m n h) (is:List Nat) (nd:is.Nodup) (hl:aE (sel m is)=is.length) {m':Mm}{n':Nat}{h':Heap}(r':ag E h is.length m' n' h')
  (same:∀ j y,j < is.length->ad m' j=some y->∃ o,ad (sel m is) j=some (y.1,o)):ag E h₀ Y (cW m is m') n' h':=by
 have hv:=an hl
 have nn:n<=n':=r.size▸r'.start
 have at_:∀ j y,j < is.length->ad m' j=some y->∃ i o,is[j]?=some i/\ad m i=some (y.1,o):=by
  intro j y hj e
  obtain ⟨o,e'⟩:=same j y hj e
  rw [im hv] at e'
  cases q:is[j]? with
  | none=>rw [q] at e';cases e'
  | some i=>rw [q] at e';exact ⟨i,o,rfl,e'⟩
 have jl:∀ {j i:Nat},is[j]?=some i->j < is.length:=fun e=>(List.getElem?_eq_some_iff.mp e).1
 -- the address of a joined one
 have mH:∀ i a o,ad (cW m is m') i=some (a,o)->(i < aE m/\∃ o',ad m i=some (a,o'))∨(aE m<=i/\ad m' (is.length+(i - aE m))=some (a,o)):=by
  intro i a o e
  rcases kr r'.old e with ⟨hi,j,y,z,e1,e2,e3,e4⟩ | ⟨hi,e1,_⟩ | ⟨hi,e1⟩
  ·cases e4;exact .inl ⟨hi,_,e3⟩
  ·exact .inl ⟨hi,_,e1⟩
  ·exact .inr ⟨hi,e1⟩
 have GL:∀ i a o,ad m i=some (a,o)->i ∉ is->h'.get? a=some o:=by
  intro i a o e hi
  refine r'.keep a o (r.own i a o e) fun j a' o' hj e' q=>?_
  subst q
  obtain ⟨i',nF,e1,e2⟩:=at_ j _ hj e'
  have:=r.apart i i' _ _ _ e e2
  subst this
  exact hi (List.mem_of_getElem? e1)
 refine ⟨r'.size,r'.base,fun i a o e=>?_,fun i1 i2 a o1 o2 e1 e2=>?_,fun i a o e=>?_,fun b o e z=>?_,Nat.le_trans r.start nn,fun i a o hi e=>?_,?_,r'.lowT⟩
 ·rcases kr r'.old e with ⟨hi,j,y,z,e1,e2,e3,e4⟩ | ⟨hi,e1,hn⟩ | ⟨hi,e1⟩
  ·cases e4
   obtain ⟨i',o',f1,f2⟩:=at_ j y (jl e1) e2
   rw [e1] at f1;cases f1
   rw [e3] at f2
   cases y
   injection f2 with f2
   subst f2
   exact r'.own j _ _ e2
  ·exact GL i a o e1 hn
  ·exact r'.own _ a o e1
 ·rcases mH i1 a o1 e1 with ⟨_,p1,q1⟩ | ⟨h1,q1⟩<;>rcases mH i2 a o2 e2 with ⟨_,p2,q2⟩ | ⟨h2,q2⟩
  ·exact r.apart i1 i2 a _ _ q1 q2
  ·have:=r'.fresh _ a _ (Nat.le_add_right _ _) q2
   exact absurd (r.lt q1) (Nat.not_lt.mpr (r.size▸this))
  ·have:=r'.fresh _ a _ (Nat.le_add_right _ _) q1
   exact absurd (r.lt q2) (Nat.not_lt.mpr (r.size▸this))
  ·have:=r'.apart _ _ a _ _ q1 q2
   lia
 ·rcases mH i a o e with ⟨_,_,q⟩ | ⟨_,q⟩
  ·exact r.off i a _ q
  ·exact r'.off _ a _ q
 ·refine r'.keep b o (r.keep b o e fun i a o' hi g=>?_) fun j a' o' hj e' q=>?_
  ·obtain ⟨nF,g'⟩:=iu (is:=is) (m':=m') g
   exact z i a nF hi g'
  ·subst q
   obtain ⟨i',nF,f1,f2⟩:=at_ j _ hj e'
   by_cases hi:i' < Y
   ·obtain ⟨o3,g'⟩:=iu (is:=is) (m':=m') f2
    exact z i' _ o3 hi g' rfl
   ·exact absurd (Heap.lt_size e) (Nat.not_lt.mpr (r.fresh i' _ _ (Nat.le_of_not_lt hi) f2))
 ·rcases mH i a o e with ⟨_,_,q⟩ | ⟨_,q⟩
  ·exact r.fresh i a _ hi q
  ·exact Nat.le_trans (r.size▸r.start:h₀.objs.size<=h.objs.size) (r'.fresh _ a _ (Nat.le_add_right _ _) q)
 ·unfold cW
  rw [m8,iH]
  exact Nat.le_trans r.old (Nat.le_add_right _ _)
theorem ag.join' (r:ag E h₀ Y m n h) (is:List Nat) (nd:is.Nodup) (hl:aE (sel m is)=is.length) {m':Mm}{n':Nat}{h':Heap}(r':ag E h is.length m' n' h')
  (same:(m'.take is.length).map (·.1)=(sel m is).map (·.1)):ag E h₀ Y (cW m is m') n' h':=by
 refine r.join is nd hl r' fun j y hj e=>?_
 have ge:∀ (l:Mm) (j:Nat),ad l j=l[j]?:=by
  intro l
  induction l with
  | nil=>intro j;rfl
  | cons x l ih=>
   intro j
   cases j with
   | zero=>rfl
   | succ j=>rw [List.getElem?_cons_succ];exact ih j
 rw [ge] at e ⊢
 have z:=congrArg (fun l=>l[j]?) same
 simp only [List.getElem?_map,List.getElem?_take_of_lt hj,e,Option.map_some] at z
 cases q:(sel m is)[j]? with
 | none=>rw [q] at z;cases z
 | some x=>
  rw [q] at z
  injection z with z
  exact ⟨x.2,by rw [z]⟩
theorem am.sub {R:Result->Shared->Prop}{d:Drawn}{os:OsState}{Γ:Ctx}{p:Pos}{κ:List Fm}{t:Sem Fin}{tk:Nat}(is:List Nat) {ck:Mm}(e:sel m is=ck) (nd:is.Nodup) (hl:aE ck=is.length)
  (w:∀ h,ag E h₀ Y m n h->am E h is.length R d os ⟨Γ,p,κ,t,ck,n,tk⟩):am E h₀ Y R d os ⟨Γ,p,κ,t,m,n,tk⟩:=by
 subst e
 exact fun h g hg hr=>w h hr h g hg (hr.sub is (an hl) nd)
end
noncomputable abbrev FL:=Expr×Value×List Stmt×List Stmt×Env
noncomputable abbrev FN:=List Stmt×Env
noncomputable abbrev CP:=Expr×List Comprehension×Scope×Pos×Nat×Value×Value×Env
noncomputable def fl (x:FL):Code:=.forLoop x.1 x.2.1 x.2.2.1 x.2.2.2.1 x.2.2.2.2
noncomputable def fn (x:FN):Code:=.func x.1 x.2
noncomputable def cp (x:CP):Code:=.compLoop (.ListComp x.1 x.2.1 x.2.2.1 x.2.2.2.1) x.2.2.2.2.1 x.2.2.2.2.2.1 x.2.2.2.2.2.2.1 x.2.2.2.2.2.2.2
noncomputable abbrev CC:Code:=.builtin "claim.caller" {}
inductive uo:Code->Nat->Prop
 | fn (f:FN):uo (fn f) 1
 | fl (f:FL):uo (fl f) 2
 | cp (f:CP):uo (cp f) 3
 | other (c:Code):uo c 0
noncomputable def IW:(c:Code)->{n:Nat // uo c n}
 | .func a b=>⟨1,.fn (a,b)⟩
 | .forLoop a b c d e=>⟨2,.fl (a,b,c,d,e)⟩
 | .compLoop (.ListComp a b c d) e f g h=>⟨3,.cp (a,b,c,d,e,f,g,h)⟩
 | c=>⟨0,.other c⟩
noncomputable def kd (c:Code):Nat:=(IW c).1
theorem wx {c:Code}{n:Nat}(h:kd c=n):uo c n:=h▸(IW c).2
theorem IX {c:Code}(h:kd c=1):∃ f,c=fn f:=by
 cases wx h;exact ⟨_,rfl⟩
theorem IY {c:Code}(h:kd c=2):∃ f,c=fl f:=by
 cases wx h;exact ⟨_,rfl⟩
theorem IZ {c:Code}(h:kd c=3):∃ f,c=cp f:=by
 cases wx h;exact ⟨_,rfl⟩
noncomputable def eb (Γ:Ctx):Option Value×Option Value×Option Value×List Nat×Option Code:=(Γ.handled,Γ.own,Γ.past,Γ.below.dropLast.map fun x=>kd x.1,Γ.below.getLast?.map fun x=>x.1)
theorem o6 {c:Code}{a b q:Option Value}{l:List (Code×Pos)}{ks:List Nat}(h:eb ⟨c,a,b,l,q⟩=(none,none,none,ks,some CC)):
  a=none/\b=none/\q=none/\(l.dropLast.map fun x=>kd x.1)=ks/\(l.getLast?.map fun x=>x.1)=some CC:=by
 unfold eb at h
 simp only [Prod.mk.injEq] at h
 exact h
noncomputable def Bo (l:List (Code×Pos)) (ks:List Nat):Prop:=(l.dropLast.map fun x=>kd x.1)=ks/\(l.getLast?.map fun x=>x.1)=some CC
theorem sM {l:List (Code×Pos)}{D:List (Code×Pos)->Prop}(h:Bo l []) (k:∀ p,D [(CC,p)]):D l:=by
 obtain ⟨e4,e5⟩:=h
 rcases l with _ | ⟨x,_ | ⟨y,l⟩⟩
 ·exact absurd e5 (by simp)
 ·obtain ⟨c',p⟩:=x
  injection e5 with e5
  have e6:c'=CC:=e5
  subst e6
  exact k p
 ·exact absurd e4 (by simp)
theorem lQ {l:List (Code×Pos)}{i:Nat}{ks:List Nat}{D:List (Code×Pos)->Prop}(h:Bo l (i::ks)) (k:∀ c p l,kd c=i->Bo l ks->D ((c,p)::l)):D l:=by
 obtain ⟨e4,e5⟩:=h
 rcases l with _ | ⟨x,_ | ⟨y,l⟩⟩
 ·exact absurd e5 (by simp)
 ·exact absurd e4 (by simp)
 ·obtain ⟨c',p⟩:=x
  rw [List.dropLast_cons_cons,List.map_cons] at e4
  injection e4 with e4 e6
  rw [List.getLast?_cons_cons] at e5
  exact k c' p (y::l) e4 ⟨e6,e5⟩
section
variable {l:List (Code×Pos)}{ks:List Nat}{D:List (Code×Pos)->Prop}
theorem nP (h:Bo l (1::ks)) (k:∀ f p l,Bo l ks->D ((fn f,p)::l)):D l:=lQ h fun c p l e h=>by obtain ⟨f,rfl⟩:=IX e;exact k f p l h
theorem wy (h:Bo l (2::ks)) (k:∀ f p l,Bo l ks->D ((fl f,p)::l)):D l:=lQ h fun c p l e h=>by obtain ⟨f,rfl⟩:=IY e;exact k f p l h
theorem GM (h:Bo l (3::ks)) (k:∀ f p l,Bo l ks->D ((cp f,p)::l)):D l:=lQ h fun c p l e h=>by obtain ⟨f,rfl⟩:=IZ e;exact k f p l h
theorem wz (h:Bo l [1]) (k:∀ f1 p1 p2,D [(fn f1,p1),(CC,p2)]):D l:=
 nP h fun f1 p1 l h=>sM (D:=fun l=>D ((fn f1,p1)::l)) h fun p=>k f1 p1 p
theorem wA (h:Bo l [2,1]) (k:∀ f1 f2 p1 p2 p3,D [(fl f1,p1),(fn f2,p2),(CC,p3)]):D l:=
 wy h fun f1 p1 l h=>wz (D:=fun l=>D ((fl f1,p1)::l)) h fun f2 p2 p3=>k f1 f2 p1 p2 p3
theorem I0 (h:Bo l [3,1]) (k:∀ f1 f2 p1 p2 p3,D [(cp f1,p1),(fn f2,p2),(CC,p3)]):D l:=
 GM h fun f1 p1 l h=>wz (D:=fun l=>D ((cp f1,p1)::l)) h fun f2 p2 p3=>k f1 f2 p1 p2 p3
theorem wB (h:Bo l [2,2,1]) (k:∀ f1 f2 f3 p1 p2 p3 p4,D [(fl f1,p1),(fl f2,p2),(fn f3,p3),(CC,p4)]):D l:=
 wy h fun f1 p1 l h=>wA (D:=fun l=>D ((fl f1,p1)::l)) h fun f2 f3 p2 p3 p4=>k f1 f2 f3 p1 p2 p3 p4
theorem GO (h:Bo l [1,2,1]) (k:∀ f0 f1 f2 p0 p1 p2 p3,D [(fn f0,p0),(fl f1,p1),(fn f2,p2),(CC,p3)]):D l:=
 nP h fun f0 p0 l h=>wA (D:=fun l=>D ((fn f0,p0)::l)) h fun f1 f2 p1 p2 p3=>k f0 f1 f2 p0 p1 p2 p3
theorem sN (h:Bo l [1,2,2,1]) (k:∀ f0 f1 f2 f3 p0 p1 p2 p3 p4,D [(fn f0,p0),(fl f1,p1),(fl f2,p2),(fn f3,p3),(CC,p4)]):D l:=
 nP h fun f0 p0 l h=>wB (D:=fun l=>D ((fn f0,p0)::l)) h fun f1 f2 f3 p1 p2 p3 p4=>k f0 f1 f2 f3 p0 p1 p2 p3 p4
theorem wC (h:Bo l [1,1,2,2,1]) (k:∀ f0 f1 f2 f3 f4 p0 p1 p2 p3 p4 p5,D [(fn f0,p0),(fn f1,p1),(fl f2,p2),(fl f3,p3),(fn f4,p4),(CC,p5)]):D l:=
 nP h fun f0 p0 l h=>sN (D:=fun l=>D ((fn f0,p0)::l)) h fun f1 f2 f3 f4 p1 p2 p3 p4 p5=>k f0 f1 f2 f3 f4 p0 p1 p2 p3 p4 p5
end
section
variable {M:Model}{Γ:Ctx}{c:Code}{Q:Result->Shared->Prop}{p:Pos}{s:Shared}(aV:Γ.code=c)
include aV
theorem o7 {ks:List Nat}(hc:eb Γ=(none,none,none,ks,some CC)) (k:∀ l,Bo l ks->wpCode M ⟨c,none,none,l,none⟩ Q p s):wpCode M Γ Q p s:=by
 obtain ⟨c,a,b,l,q⟩:=Γ
 obtain ⟨rfl,rfl,rfl,e⟩:=o6 hc
 subst aV
 exact k l e
theorem I1 (hc:eb Γ=(none,none,none,[],some CC)) (k:∀ p1,wpCode M ⟨c,none,none,[(CC,p1)],none⟩ Q p s):wpCode M Γ Q p s:=
 o7 aV hc fun l h=>sM (D:=fun l=>wpCode M ⟨c,none,none,l,none⟩ Q p s) h k
theorem sO (hc:eb Γ=(none,none,none,[1],some CC)) (k:∀ f1 p1 p2,wpCode M ⟨c,none,none,[(fn f1,p1),(CC,p2)],none⟩ Q p s):wpCode M Γ Q p s:=
 o7 aV hc fun l h=>wz (D:=fun l=>wpCode M ⟨c,none,none,l,none⟩ Q p s) h k
theorem kx (hc:eb Γ=(none,none,none,[2,1],some CC)) (k:∀ f1 f2 p1 p2 p3,wpCode M ⟨c,none,none,[(fl f1,p1),(fn f2,p2),(CC,p3)],none⟩ Q p s):wpCode M Γ Q p s:=
 o7 aV hc fun l h=>wA (D:=fun l=>wpCode M ⟨c,none,none,l,none⟩ Q p s) h k
theorem I2 (hc:eb Γ=(none,none,none,[3,1],some CC)) (k:∀ f1 f2 p1 p2 p3,wpCode M ⟨c,none,none,[(cp f1,p1),(fn f2,p2),(CC,p3)],none⟩ Q p s):wpCode M Γ Q p s:=
 o7 aV hc fun l h=>I0 (D:=fun l=>wpCode M ⟨c,none,none,l,none⟩ Q p s) h k
theorem lR (hc:eb Γ=(none,none,none,[2,2,1],some CC)) (k:∀ f1 f2 f3 p1 p2 p3 p4,wpCode M ⟨c,none,none,[(fl f1,p1),(fl f2,p2),(fn f3,p3),(CC,p4)],none⟩ Q p s):wpCode M Γ Q p s:=
 o7 aV hc fun l h=>wB (D:=fun l=>wpCode M ⟨c,none,none,l,none⟩ Q p s) h k
theorem ro (hc:eb Γ=(none,none,none,[1,2,1],some CC)) (k:∀ f0 f1 f2 p0 p1 p2 p3,wpCode M ⟨c,none,none,[(fn f0,p0),(fl f1,p1),(fn f2,p2),(CC,p3)],none⟩ Q p s):wpCode M Γ Q p s:=
 o7 aV hc fun l h=>GO (D:=fun l=>wpCode M ⟨c,none,none,l,none⟩ Q p s) h k
theorem nQ (hc:eb Γ=(none,none,none,[1,2,2,1],some CC)) (k:∀ f0 f1 f2 f3 p0 p1 p2 p3 p4,wpCode M ⟨c,none,none,[(fn f0,p0),(fl f1,p1),(fl f2,p2),(fn f3,p3),(CC,p4)],none⟩ Q p s):wpCode M Γ Q p s:=
 o7 aV hc fun l h=>sN (D:=fun l=>wpCode M ⟨c,none,none,l,none⟩ Q p s) h k
theorem wD (hc:eb Γ=(none,none,none,[1,1,2,2,1],some CC)) (k:∀ f0 f1 f2 f3 f4 p0 p1 p2 p3 p4 p5,wpCode M ⟨c,none,none,[(fn f0,p0),(fn f1,p1),(fl f2,p2),(fl f3,p3),(fn f4,p4),(CC,p5)],none⟩ Q p s):wpCode M Γ Q p s:=
 o7 aV hc fun l h=>wC (D:=fun l=>wpCode M ⟨c,none,none,l,none⟩ Q p s) h k
end
section
variable {E:En}{d:Drawn}{os:OsState}
theorem eA {m:Mm}:∀ {is:List Nat}{ck:Mm},is.map (ad m)=ck.map some->sel m is=ck
 | [],[],_=>rfl
 | [],_::_,h=>nomatch h
 | _::_,[],h=>nomatch h
 | i::is,x::ck,h=>by
  rw [List.map_cons,List.map_cons] at h
  injection h with h1 h2
  show (match ad m i with | some x=>x::sel m is | none=>sel m is)=_
  rw [h1]
  dsimp only
  rw [eA h2]
noncomputable def aL.sub (X:Type) (x0:X) (code:Code) (ks is:List Nat) (ck:Mm) (nd:is.Nodup) (hl:aE ck=is.length) (f:X->Flow) (m':X->Mm) (n' aF:X->Nat) (says:X->Prop)
  (same:∀ x,((m' x).take is.length).map (·.1)=ck.map (·.1))
  (H:∀ (Γ:Ctx) (h:Heap) (g:Array GenState) (p:Pos) (n tk:Nat) (Q:Result->Shared->Prop),Γ.code=code->eb Γ=(none,none,none,ks,some CC)->E.G g->ag E h is.length ck n h->
   (∀ x,says x->∀ h' g',E.G g'->ag E h is.length (m' x) (n' x) h'->Q (.ok (f x)) ⟨h',g',d,aF x,os⟩)->wpCode (Mo E) Γ Q p ⟨h,g,d,tk,os⟩):aL E d os where
 X:=X
 x0:=x0
 L:=_
 look q:=(q.code,is.map (ad q.m),eb q.Γ)
 v:=(code,ck.map some,(none,none,none,ks,some CC))
 ans x q:=⟨.pure (.done (f x)),q.p,cW q.m is (m' x),n' x,aF x,[]⟩
 says:=says
 holds:=by
  intro h₀ Y hs q Q h g e hc hg hr kk
  obtain ⟨e1,e⟩:=Prod.ext_iff.mp e
  obtain ⟨e2,e3⟩:=Prod.ext_iff.mp e
  dsimp only at e1 e2 e3
  have es:=eA e2
  have fA:aE (sel q.m is)=is.length:=by rw [es];exact hl
  have dD:=hr.sub is (an fA) nd
  rw [es] at dD
  refine H q.Γ h g q.p q.n q.tk Q (hc.trans e1) e3 hg dD fun x sx h' g' bQ aJ=>?_
  exact kk x sx h' g' bQ (hr.join' is nd fA aJ (by rw [es];exact same x))
noncomputable def aL.sub0 (X:Type) (x0:X) (code:Code) (is:List Nat) (ck:Mm) (nd:is.Nodup) (hl:aE ck=is.length) (f:X->Flow) (m':X->Mm) (n' aF:X->Nat) (says:X->Prop)
  (same:∀ x,((m' x).take is.length).map (·.1)=ck.map (·.1))
  (H:∀ (Γ:Ctx) (h:Heap) (g:Array GenState) (p:Pos) (n tk:Nat) (Q:Result->Shared->Prop),Γ.code=code->E.G g->ag E h is.length ck n h->
   (∀ x,says x->∀ h' g',E.G g'->ag E h is.length (m' x) (n' x) h'->Q (.ok (f x)) ⟨h',g',d,aF x,os⟩)->wpCode (Mo E) Γ Q p ⟨h,g,d,tk,os⟩):aL E d os where
 X:=X
 x0:=x0
 L:=_
 look q:=(q.code,is.map (ad q.m))
 v:=(code,ck.map some)
 ans x q:=⟨.pure (.done (f x)),q.p,cW q.m is (m' x),n' x,aF x,[]⟩
 says:=says
 holds:=by
  intro h₀ Y hs q Q h g e hc hg hr kk
  obtain ⟨e1,e2⟩:=Prod.ext_iff.mp e
  dsimp only at e1 e2
  have es:=eA e2
  have fA:aE (sel q.m is)=is.length:=by rw [es];exact hl
  have dD:=hr.sub is (an fA) nd
  rw [es] at dD
  refine H q.Γ h g q.p q.n q.tk Q (hc.trans e1) hg dD fun x sx h' g' bQ aJ=>?_
  exact kk x sx h' g' bQ (hr.join' is nd fA aJ (by rw [es];exact same x))
end
noncomputable abbrev KV:=List (Int×Int)
noncomputable def Z (es:Array DictEntry) (l:KV):Prop:=es.toList.map (fun e=>(e.hash,bJ e.key,bJ e.val))=l.map fun x=>(hashInt x.1,Value.int x.1 0,Value.int x.2 0)
noncomputable def lk:KV->Int->Option Int
 | [],_=>none
 | x::l,k=>if x.1=k then some x.2 else lk l k
noncomputable def bw:KV->Int->Int->KV
 | [],k,c=>[(k,c)]
 | x::l,k,c=>if x.1=k then (x.1,c)::l else x::bw l k c
noncomputable def ct (l:KV) (k:Int):Int:=(lk l k).getD 0
theorem sP {l:KV}{k v:Int}(h:(k,v)∈l):∃ c,lk l k=some c:=by
 induction l with
 | nil=>cases h
 | cons y l ih=>
  show ∃ c,(if y.1=k then some y.2 else lk l k)=some c
  by_cases e:y.1=k
  ·rw [if_pos e];exact ⟨_,rfl⟩
  ·rw [if_neg e]
   rcases List.mem_cons.mp h with rfl | h
   ·exact absurd rfl e
   ·exact ih h
theorem ei:Z #[] []:=rfl
theorem o8 {e:DictEntry}{es:List DictEntry}{l:KV}(h:Z (e::es).toArray l):∃ k c t u r,e=⟨hashInt k,.int k t,.int c u⟩/\l=(k,c)::r/\Z es.toArray r:=by
 unfold Z at h
 cases l with
 | nil=>simp at h
 | cons x r=>
  simp only [List.map_cons] at h
  injection h with h1 h2
  simp only [Prod.mk.injEq] at h1
  obtain ⟨a,b,c⟩:=h1
  obtain ⟨t,hb⟩:=bx b
  obtain ⟨u,hc⟩:=bx c
  refine ⟨x.1,x.2,t,u,r,?_,rfl,?_⟩
  ·cases e;simp_all
  ·unfold Z;simpa using h2
theorem Z.ind {P:List DictEntry->KV->Prop}(h0:P [] []) (h1:∀ k c t u es l,Z es.toArray l->P es l->P (⟨hashInt k,.int k t,.int c u⟩::es) ((k,c)::l)):∀ (es:List DictEntry) (l:KV),Z es.toArray l->P es l
 | [],l,h=>by
  cases l with
  | nil=>exact h0
  | cons x r=>simp [Z] at h
 | e::es,l,h=>by
  obtain ⟨k,c,t,u,r,rfl,rfl,h'⟩:=o8 h
  exact h1 k c t u es r h' (Z.ind h0 h1 es r h')
theorem Z.keys {es:Array DictEntry}{l:KV}(h:Z es l):IntKeys es:=by
 obtain ⟨es⟩:=es
 refine Z.ind (P:=fun es l=>IntKeys es.toArray) (fun e he=>by simp at he) (fun k c t u es l _ ih e he=>?_) es l h
 rcases List.mem_cons.mp (by simpa using he) with rfl | he
 ·exact ⟨k,t,rfl,rfl⟩
 ·exact ih e (by simpa using he)
theorem Z.size {es:Array DictEntry}{l:KV}(h:Z es l):es.size=l.length:=by
 have:=congrArg List.length h
 simpa using this
theorem lS (k k':Int) (t:Tok):Value.isInt k (.int k' t)=decide (k'=k):=by
 show (k'==k)=_
 by_cases h:k'=k
 ·subst h;simp
 ·rw [decide_eq_false h];exact beq_eq_false_iff_ne.mpr h
theorem Z.get {es:Array DictEntry}{l:KV}(h:Z es l) (k:Int):(∃ c t,lk l k=some c/\findBy Value.isInt es k=some (.int c t))∨(lk l k=none/\findBy Value.isInt es k=none):=by
 obtain ⟨es⟩:=es
 refine Z.ind (P:=fun es l=>(∃ c t,lk l k=some c/\findBy Value.isInt es.toArray k=some (.int c t))∨(lk l k=none/\findBy Value.isInt es.toArray k=none)) (.inr ⟨rfl,rfl⟩) (fun k' c t u es l _ ih=>?_) es l h
 unfold findBy at ih ⊢
 simp only [List.find?_toArray] at ih ⊢
 rw [List.find?_cons]
 show (∃ c' t',(if k'=k then some c else lk l k)=some c'/\_)∨((if k'=k then some c else lk l k)=none/\_)
 rw [lS]
 by_cases e:k'=k
 ·rw [if_pos e,decide_eq_true e]
  exact .inl ⟨c,u,rfl,rfl⟩
 ·rw [if_neg e,decide_eq_false e]
  exact ih
theorem Z.hit {es:Array DictEntry}{l:KV}(h:Z es l) {k c:Int}(e:lk l k=some c):∃ t,findBy Value.isInt es k=some (.int c t):=by
 rcases h.get k with ⟨c',t,e1,e2⟩ | ⟨e1,_⟩
 ·rw [e] at e1;cases e1;exact ⟨t,e2⟩
 ·rw [e] at e1;cases e1
theorem Z.at {es:Array DictEntry}{l:KV}(h:Z es l) {i:Nat}{x:Int×Int}(e:l[i]?=some x):∃ t u,es[i]?=some ⟨hashInt x.1,.int x.1 t,.int x.2 u⟩:=by
 obtain ⟨es⟩:=es
 revert i x e
 refine Z.ind (P:=fun es l=>∀ {i:Nat}{x:Int×Int},l[i]?=some x->∃ t u,es.toArray[i]?=some ⟨hashInt x.1,.int x.1 t,.int x.2 u⟩) (fun {i x} e=>by simp at e) (fun k c t u es l _ ih {i x} e=>?_) es l h
 cases i with
 | zero=>simp at e;subst e;exact ⟨t,u,rfl⟩
 | succ i=>
  obtain ⟨t',u',z⟩:=ih (by simpa using e)
  exact ⟨t',u',by simpa using z⟩
noncomputable def jA (es:List DictEntry) (k:Int) (key v:Value):List DictEntry:=match es.findIdx? fun e=>Value.isInt k e.key with
 | some i=>es.modify i fun e=>{e with val:=v}
 | none=>es++[⟨hashInt k,key,v⟩]
theorem rq (es:List DictEntry) (k:Int) (key v:Value):(dy es.toArray k key v).toList=jA es k key v:=by
 unfold dy jA
 rw [List.findIdx?_toArray]
 cases es.findIdx? fun e=>Value.isInt k e.key with
 | none=>simp
 | some i=>simp
theorem Z.put {es:Array DictEntry}{l:KV}(h:Z es l) (k c:Int) (t u:Tok):Z (dy es k (.int k t) (.int c u)) (bw l k c):=by
 obtain ⟨es⟩:=es
 have key:∀ (es:List DictEntry) (l:KV),Z es.toArray l->(jA es k (.int k t) (.int c u)).map (fun e:DictEntry=>(e.hash,bJ e.key,bJ e.val))=(bw l k c).map fun x=>(hashInt x.1,Value.int x.1 0,Value.int x.2 0):=by
  intro es l h
  refine Z.ind (P:=fun es l=>(jA es k (.int k t) (.int c u)).map (fun e:DictEntry=>(e.hash,bJ e.key,bJ e.val))=(bw l k c).map fun x=>(hashInt x.1,Value.int x.1 0,Value.int x.2 0)) rfl (fun k' c' t' u' es l hl ih=>?_) es l h
  unfold jA at ih ⊢
  rw [List.findIdx?_cons,lS]
  have fA:es.map (fun e:DictEntry=>(e.hash,bJ e.key,bJ e.val))=l.map fun x=>(hashInt x.1,Value.int x.1 0,Value.int x.2 0):=hl
  by_cases e:k'=k
  ·rw [decide_eq_true e]
   subst e
   show ((⟨hashInt k',.int k' t',.int c u⟩::es:List DictEntry).map _)=((if k'=k' then (k',c)::l else _):KV).map _
   rw [if_pos rfl,List.map_cons,List.map_cons,fA];rfl
  ·rw [decide_eq_false e]
   show _=((if k'=k then (k',c)::l else (k',c')::bw l k c):KV).map _
   rw [if_neg e,List.map_cons]
   simp only [Bool.false_eq_true,if_false]
   cases q:es.findIdx? fun e=>Value.isInt k e.key with
   | none=>rw [q] at ih;simp only [Option.map_none] at ih ⊢;rw [List.cons_append,List.map_cons,ih];rfl
   | some i=>rw [q] at ih;simp only [Option.map_some] at ih ⊢;rw [List.modify_succ_cons,List.map_cons,ih];rfl
 unfold Z
 rw [rq]
 exact key es l h
theorem dz {n:Nat}(h:n<=1000):n<=sizeLine:=Nat.le_trans h (by unfold sizeLine;decide)
noncomputable def lT (l:KV):Array DictEntry:=(l.map fun x=>(⟨hashInt x.1,.int x.1 0,.int x.2 0⟩:DictEntry)).toArray
theorem bX (l:KV):Z (lT l) l:=by
 unfold Z lT
 simp only [List.map_map]
 refine List.map_congr_left fun x _=>rfl
theorem dP (l:KV) (k c:Int):(bw l k c).length<=l.length+1:=by
 induction l with
 | nil=>exact Nat.le_refl _
 | cons x l ih=>
  show (if x.1=k then (x.1,c)::l else x::bw l k c).length<=_
  split
  ·simp
  ·simpa using ih
noncomputable def bA (d i n ep:Nat):Obj:=⟨.type "dict_keyiterator",none,.fields #[.ref d,.int i 0,.int n 0,.int ep 0],#[]⟩
noncomputable def aY (x left step:Int):Obj:=⟨.type "range_iterator",none,.fields #[.int x 0,.int left 0,.int step 0],#[]⟩
noncomputable def ba (l i:Nat):Obj:=⟨.type "list_iterator",none,.fields #[.ref l,.int i 0],#[]⟩
noncomputable def ac (xs:Array Value) (e:Nat):Obj:=⟨.type "list",none,.seq xs e,#[]⟩
section
variable {E:En}{A:Around}{X:Value->Shared->Prop}{s:Shared}
noncomputable def iW:Obj:=⟨.type "tuple",none,.seq #[] 0,#[]⟩
noncomputable def lV (t:Nat):Obj:=⟨.type "StopIteration",none,.fields #[.ref t,.none,.none,.none,.bool false,.none],#[]⟩
theorem jX {Q:α->Shared->Prop}(hh:A.handled=none) (h:X (.ref (s.heap.objs.size+1)) {s with heap:=(s.heap.push iW).push (lV s.heap.objs.size)}):wpAny (Mo E) A (newExc (.type "StopIteration") []>>=fun e=>(raiseNew e:Sem α)) Q X s:=by
 refine wpAny_bind ?_
 simp only [newExc,newTuple]
 refine wpAny_bind (wpAny_newObj_type ?_ (by size_fits))
 refine wpAny_bind (m:=firstArgMember _ _) (wpAny_of_eq (a:=Value.none) (by first | rfl | (simp only [firstArgMember];rfl)) ?_)
 refine wpAny_newObj_type ?_ (by size_fits)
 simp only [raiseNew]
 refine wpAny_bind (wpAny_handled ?_)
 rw [hh]
 refine wpAny_bind (wpAny_pure (wpAny_throw ?_))
 have e:(s.heap.push iW).objs.size=s.heap.objs.size+1:=Heap.size_push ..
 rw [<- e] at h
 exact h
theorem iX {it d:Addr}{i n ep:Nat}{od:Obj}{es:Array DictEntry}{e:DictEntry}{Q:PySem.Fin->Shared->Prop}(hit:s.heap.get? it=some (bA d i n ep)) (eM:s.heap.get? d=some od) (dU:od.data=.dict es ep) (aG:es.size=n) (hx:es[i]?=some e)
  (h:∀ h',h'.get? it=some (bA d (i+1) n ep)->Heap.SameBut it s.heap h'->Q (.done (.ret e.key)) {s with heap:=h'}):wpAny (Mo E) A (Builtin.«dict_keyiterator.__next__» ⟨[.ref it],[]⟩) Q X s:=by
 have hT:s.TypeIs (.ref it) "dict_keyiterator":=⟨_,hit,rfl⟩
 refine wpAny_bind (wpAny_pure ?_)
 refine wpAny_bind ?_
 refine wpAny_bind ?_
 first | refine wpAny_bind (wpAny_typeNameOfWhole_keyiter hT (wpAny_pure ?_)) | refine wpAny_bind (wpAny_typeNameOf_keyiter hT (wpAny_pure ?_))
 refine wpAny_bind (wpAny_fieldsOf hit rfl ?_)
 have gy:Builtin.Dict_items.ownsTuple "dict_keyiterator"=false:=by decide
 simp only [gy,Bool.false_eq_true,if_false]
 show wpAny _ _ (if (Value.ref d==Value.none)=true then _ else _) _ _ s
 rw [if_neg (show ¬ ((Value.ref d==Value.none)=true) from Bool.false_ne_true)]
 refine wpAny_bind (wpAny_pure ?_)
 refine wpAny_bind (wpAny_dictEntries eM dU ?_)
 rw [if_neg (by rw [aG];simp)]
 refine wpAny_bind (wpAny_pure ?_)
 refine wpAny_bind (wpAny_dictEpoch eM dU ?_)
 rw [if_neg (by simp)]
 refine wpAny_pure ?_
 simp only [show ¬ ((i:Int) < 0) from by lia,if_false,Int.toNat_natCast,hx]
 refine wpAny_bind ?_
 first | refine wpAny_bind (wpAny_typeNameOfWhole_keyiter hT (wpAny_pure ?_)) | refine wpAny_bind (wpAny_typeNameOf_keyiter hT (wpAny_pure ?_))
 refine wpAny_bind (wpAny_isOneOf_keyiter hT ?_)
 show wpAny _ _ (setField (.ref it) 1 (rawInt ((i:Int)+1))>>=_) _ _ s
 refine wpAny_bind (wpAny_setField_rec hit (by simp) fun h₁ cM cw=>?_)
 have dV:h₁.get? it=some (bA d (i+1) n ep):=cM
 refine wpAny_bind (wpAny_holding ?_)
 refine wpAny_bind (wpAny_isOneOf_keyiter (s:={s with heap:=h₁}) ⟨_,dV,rfl⟩ ?_)
 show wpAny _ _ (pure e.key) _ _ _
 exact wpAny_pure (wpAny_pure (h h₁ dV cw))
theorem mI (hh:A.handled=none) {it d:Addr}{i n ep:Nat}{od:Obj}{es:Array DictEntry}{Q:PySem.Fin->Shared->Prop}(hit:s.heap.get? it=some (bA d i n ep)) (eM:s.heap.get? d=some od) (dU:od.data=.dict es ep) (aG:es.size=n) (hx:n<=i)
  (h:∀ h' o',h'.get? it=some o'->Heap.SameBut it s.heap h'->X (.ref (s.heap.objs.size+1)) {s with heap:=(h'.push iW).push (lV s.heap.objs.size)}):wpAny (Mo E) A (Builtin.«dict_keyiterator.__next__» ⟨[.ref it],[]⟩) Q X s:=by
 have hT:s.TypeIs (.ref it) "dict_keyiterator":=⟨_,hit,rfl⟩
 refine wpAny_bind (wpAny_pure ?_)
 refine wpAny_bind ?_
 refine wpAny_bind ?_
 first | refine wpAny_bind (wpAny_typeNameOfWhole_keyiter hT (wpAny_pure ?_)) | refine wpAny_bind (wpAny_typeNameOf_keyiter hT (wpAny_pure ?_))
 refine wpAny_bind (wpAny_fieldsOf hit rfl ?_)
 have gy:Builtin.Dict_items.ownsTuple "dict_keyiterator"=false:=by decide
 simp only [gy,Bool.false_eq_true,if_false]
 show wpAny _ _ (if (Value.ref d==Value.none)=true then _ else _) _ _ s
 rw [if_neg (show ¬ ((Value.ref d==Value.none)=true) from Bool.false_ne_true)]
 refine wpAny_bind (wpAny_pure ?_)
 refine wpAny_bind (wpAny_dictEntries eM dU ?_)
 rw [if_neg (by rw [aG];simp)]
 refine wpAny_bind (wpAny_pure ?_)
 refine wpAny_bind (wpAny_dictEpoch eM dU ?_)
 rw [if_neg (by simp)]
 refine wpAny_pure ?_
 have wr:es.size<=i:=by rw [aG];exact hx
 simp only [show ¬ ((i:Int) < 0) from by lia,if_false,Int.toNat_natCast,Array.getElem?_eq_none wr]
 refine wpAny_bind ?_
 first | refine wpAny_bind (wpAny_typeNameOfWhole_keyiter hT (wpAny_pure ?_)) | refine wpAny_bind (wpAny_typeNameOf_keyiter hT (wpAny_pure ?_))
 show wpAny _ _ (setField (.ref it) 0 .none>>=_) _ _ s
 refine wpAny_bind (wpAny_setField_rec hit (by simp) fun h₁ cM cw=>?_)
 refine jX hh ?_
 have z:=h h₁ _ cM cw
 rw [<- cw.1] at z
 exact z
theorem nR {it:Addr}{x left:Int}{Q:PySem.Fin->Shared->Prop}(hit:s.heap.get? it=some (aY x left 1)) (hl:0 < left)
  (h:∀ h',h'.get? it=some (aY (x+1) (left - 1) 1)->Heap.SameBut it s.heap h'->Q (.done (.ret (.int x s.toks))) {s with heap:=h',toks:=s.toks+1}):wpAny (Mo E) A (Builtin.«range_iterator.__next__» ⟨[.ref it],[]⟩) Q X s:=by
 show wpAny _ _ (field (.ref it) 0>>=_) _ _ s
 refine wpAny_bind (wpAny_field hit rfl (x:=rawInt x) rfl ?_)
 show wpAny _ _ (field (.ref it) 1>>=_) _ _ s
 refine wpAny_bind (wpAny_field hit rfl (x:=rawInt left) rfl ?_)
 show wpAny _ _ (field (.ref it) 2>>=_) _ _ s
 refine wpAny_bind (wpAny_field hit rfl (x:=rawInt 1) rfl ?_)
 show wpAny _ _ (if left<=0 then _ else _) _ _ s
 rw [if_neg (by lia)]
 refine wpAny_bind (wpAny_setField_rec hit (by simp) fun h₁ cM cw=>?_)
 refine wpAny_bind (wpAny_setField_rec cM (by simp) fun fk dV GQ=>?_)
 have he:fk.get? it=some (aY (x+1) (left - 1) 1):=dV
 exact wpAny_bind (wpAny_mkInt (wpAny_pure (h fk he (cw.trans GQ))))
theorem nS (hh:A.handled=none) {it:Addr}{x left:Int}{Q:PySem.Fin->Shared->Prop}(hit:s.heap.get? it=some (aY x left 1)) (hl:left<=0)
  (h:X (.ref (s.heap.objs.size+1)) {s with heap:=(s.heap.push iW).push (lV s.heap.objs.size)}):wpAny (Mo E) A (Builtin.«range_iterator.__next__» ⟨[.ref it],[]⟩) Q X s:=by
 show wpAny _ _ (field (.ref it) 0>>=_) _ _ s
 refine wpAny_bind (wpAny_field hit rfl (x:=rawInt x) rfl ?_)
 show wpAny _ _ (field (.ref it) 1>>=_) _ _ s
 refine wpAny_bind (wpAny_field hit rfl (x:=rawInt left) rfl ?_)
 show wpAny _ _ (field (.ref it) 2>>=_) _ _ s
 refine wpAny_bind (wpAny_field hit rfl (x:=rawInt 1) rfl ?_)
 show wpAny _ _ (if left<=0 then _ else _) _ _ s
 rw [if_pos hl]
 refine wpAny_bind (wpAny_rule ?_)
 refine wpAny_bind ?_
 exact jX hh h
theorem jB {it l:Addr}{i e:Nat}{xs:Array Value}{v:Value}{Q:PySem.Fin->Shared->Prop}(hit:s.heap.get? it=some (ba l i)) (hl:s.heap.get? l=some (ac xs e)) (hx:xs[i]?=some v)
  (h:∀ h',h'.get? it=some (ba l (i+1))->Heap.SameBut it s.heap h'->Q (.done (.ret v)) {s with heap:=h'}):wpAny (Mo E) A (Builtin.«list_iterator.__next__» ⟨[.ref it],[]⟩) Q X s:=by
 show wpAny _ _ (field (.ref it) 0>>=_) _ _ s
 refine wpAny_bind (wpAny_field hit rfl (x:=.ref l) rfl ?_)
 show wpAny _ _ (if (Value.ref l==Value.none)=true then _ else _) _ _ s
 rw [if_neg (show ¬ ((Value.ref l==Value.none)=true) from Bool.false_ne_true)]
 show wpAny _ _ (field (.ref it) 1>>=_) _ _ s
 refine wpAny_bind (wpAny_field hit rfl (x:=rawInt i) rfl ?_)
 refine wpAny_bind (wpAny_seqItems hl rfl ?_)
 simp only [rawInt,Int.toNat_natCast,hx]
 refine wpAny_bind (wpAny_setField_rec hit (by simp) fun h₁ cM cw=>?_)
 have he:h₁.get? it=some (ba l (i+1)):=cM
 exact wpAny_pure (h h₁ he cw)
theorem nT (hh:A.handled=none) {it l:Addr}{i e:Nat}{xs:Array Value}{Q:PySem.Fin->Shared->Prop}(hit:s.heap.get? it=some (ba l i)) (hl:s.heap.get? l=some (ac xs e)) (hx:xs.size<=i)
  (h:∀ h' o',h'.get? it=some o'->Heap.SameBut it s.heap h'->X (.ref (s.heap.objs.size+1)) {s with heap:=(h'.push iW).push (lV s.heap.objs.size)}):wpAny (Mo E) A (Builtin.«list_iterator.__next__» ⟨[.ref it],[]⟩) Q X s:=by
 show wpAny _ _ (field (.ref it) 0>>=_) _ _ s
 refine wpAny_bind (wpAny_field hit rfl (x:=.ref l) rfl ?_)
 show wpAny _ _ (if (Value.ref l==Value.none)=true then _ else _) _ _ s
 rw [if_neg (show ¬ ((Value.ref l==Value.none)=true) from Bool.false_ne_true)]
 show wpAny _ _ (field (.ref it) 1>>=_) _ _ s
 refine wpAny_bind (wpAny_field hit rfl (x:=rawInt i) rfl ?_)
 refine wpAny_bind (wpAny_seqItems hl rfl ?_)
 simp only [rawInt,Int.toNat_natCast,Array.getElem?_eq_none hx]
 refine wpAny_bind (wpAny_rule ?_)
 refine wpAny_bind (wpAny_setField_rec hit (by simp) fun h₁ cM cw=>?_)
 refine jX hh ?_
 have z:=h h₁ _ cM cw
 rw [<- cw.1] at z
 exact z
end
section
variable {E:En}{d:Drawn}{os:OsState}
theorem iv {c:Code}{id:String}{a:Addr}(h:cN c=some (id,[.ref a])):c=.builtin id ⟨[.ref a],[]⟩:=by
 obtain ⟨pos,e3,e4⟩:=cV h
 rcases pos with _ | ⟨x,_ | ⟨y,l⟩⟩
 ·cases e4
 ·rw [List.map_cons,List.map_nil] at e4
  injection e4 with e4 _
  rw [e3,cx e4]
 ·rw [List.map_cons,List.map_cons] at e4
  injection e4 with _ e4
  cases e4
theorem hW:entryFor table "list_iterator.__next__"=some Builtin.«list_iterator.__next__»:=entryFor_of_fast (by kernel_rfl)
noncomputable def aL.stop {L:Type}(X:Type) (x0:X) (look:bC->L) (v:L) (m':X->bC->Mm)
  (H:∀ (h₀:Heap) (Y:Nat) (q:bC) (Q:Result->Shared->Prop) (h:Heap) (g:Array GenState),look q=v->q.Γ.code=q.code->E.G g->ag E h₀ Y q.m q.n h->
   (∀ x h',ag E h₀ Y (m' x q) q.n h'->Q (.error (.ref (q.n+1))) ⟨(h'.push iW).push (lV q.n),g,d,q.tk,os⟩)->wpCode (Mo E) q.Γ Q q.p ⟨h,g,d,q.tk,os⟩):aL E d os where
 X:=X
 x0:=x0
 L:=L
 look:=look
 v:=v
 ans x q:=⟨.raise (.ref (q.n+1)),q.p,d7 (d7 (m' x q) (q.n,iW)) (q.n+1,lV q.n),q.n+2,q.tk,[]⟩
 says _:=True
 holds h₀ Y hs:=fun q Q h g e hc hg hr k=>H h₀ Y q Q h g e hc hg hr fun x h' aJ=>by
  have r1:=aJ.push (o:=iW) rfl
  have r2:=r1.push (o:=lV q.n) rfl
  exact k x trivial _ g hg r2
noncomputable def fq (i j:Nat) (it dd k n ep:Nat) (od:Obj) (es:Array DictEntry) (hd:od.data=.dict es ep) (hn:es.size=n) (e:DictEntry) (hx:es[k]?=some e):aL E d os:=
 aL.leaf Unit () (fun q=>(cN q.code,ad q.m i,ad q.m j)) (some ("dict_keyiterator.__next__",[.ref it]),some (it,bA dd k n ep),some (dd,od)) (fun _ _=>e.key) (fun _ q=>cg q.m i (bA dd (k+1) n ep)) (fun _ q=>q.n) (fun _ q=>q.tk) (fun _=>True) (by
  intro h₀ Y q Q h g e' hc hg hr kk
  simp only [Prod.mk.injEq] at e'
  obtain ⟨e1,e2,e3⟩:=e'
  refine aP (hc.trans (iv e1)) F.entry_dict_keyiterator_next ?_
  refine Sem.wp_mono _ _ _ (fun a p' s' h'=>?_) (fun e p' s' h'=>h'.elim) _ _ (bm (Q:=fun f s'=>∃ v,f=.done (.ret v)/\Q (.ok (.ret v)) s') (E:=fun _ _=>False)
   (iX (hr.own _ _ _ e2) (hr.own _ _ _ e3) hd hn hx fun h' he hs=>⟨_,rfl,kk () trivial h' g hg (hr.chg e2 he (hs.1.trans hr.size) (Nat.le_refl _) fun b x hb hx=>(hs.2 b hb).trans hx)⟩) _)
  obtain ⟨v,rfl,h'⟩:=h'
  exact h')
noncomputable def jC (i j:Nat) (it dd k n ep:Nat) (od:Obj) (es:Array DictEntry) (hd:od.data=.dict es ep) (hn:es.size=n) (hx:n<=k):aL E d os:=
 aL.stop Obj iW (fun q=>(cN q.code,ad q.m i,ad q.m j,q.Γ.handled)) (some ("dict_keyiterator.__next__",[.ref it]),some (it,bA dd k n ep),some (dd,od),none) (fun o q=>cg q.m i o) (by
  intro h₀ Y q Q h g e' hc hg hr kk
  simp only [Prod.mk.injEq] at e'
  obtain ⟨e1,e2,e3,e4⟩:=e'
  refine aP (hc.trans (iv e1)) F.entry_dict_keyiterator_next ?_
  refine Sem.wp_mono _ _ _ (fun a p' s' h'=>h'.elim) (fun e p' s' h'=>h') _ _ (bm (Q:=fun f s'=>False) (E:=fun e s'=>Q (.error e) s')
   (mI (show (dk q.Γ).handled=none from e4) (hr.own _ _ _ e2) (hr.own _ _ _ e3) hd hn hx fun h' o' he hs=>?_) _)
  have z:=kk o' h' (hr.chg e2 he (hs.1.trans hr.size) (Nat.le_refl _) fun b x hb hx=>(hs.2 b hb).trans hx)
  rw [<- hr.size] at z
  exact z)
noncomputable def fr (i:Nat) (it:Nat) (x left:Int) (hl:0 < left):aL E d os:=
 aL.leaf Unit () (fun q=>(cN q.code,ad q.m i)) (some ("range_iterator.__next__",[.ref it]),some (it,aY x left 1)) (fun _ q=>.int x q.tk) (fun _ q=>cg q.m i (aY (x+1) (left - 1) 1)) (fun _ q=>q.n) (fun _ q=>q.tk+1) (fun _=>True) (by
  intro h₀ Y q Q h g e' hc hg hr kk
  simp only [Prod.mk.injEq] at e'
  obtain ⟨e1,e2⟩:=e'
  refine aP (hc.trans (iv e1)) F.entry_range_iterator_next ?_
  refine Sem.wp_mono _ _ _ (fun a p' s' h'=>?_) (fun e p' s' h'=>h'.elim) _ _ (bm (Q:=fun f s'=>∃ v,f=.done (.ret v)/\Q (.ok (.ret v)) s') (E:=fun _ _=>False)
   (nR (hr.own _ _ _ e2) hl fun h' he hs=>⟨_,rfl,kk () trivial h' g hg (hr.chg e2 he (hs.1.trans hr.size) (Nat.le_refl _) fun b x hb hx=>(hs.2 b hb).trans hx)⟩) _)
  obtain ⟨v,rfl,h'⟩:=h'
  exact h')
noncomputable def lW (i:Nat) (it:Nat) (x left:Int) (hl:left<=0):aL E d os:=
 aL.stop Unit () (fun q=>(cN q.code,ad q.m i,q.Γ.handled)) (some ("range_iterator.__next__",[.ref it]),some (it,aY x left 1),none) (fun _ q=>q.m) (by
  intro h₀ Y q Q h g e' hc hg hr kk
  simp only [Prod.mk.injEq] at e'
  obtain ⟨e1,e2,e4⟩:=e'
  refine aP (hc.trans (iv e1)) F.entry_range_iterator_next ?_
  refine Sem.wp_mono _ _ _ (fun a p' s' h'=>h'.elim) (fun e p' s' h'=>h') _ _ (bm (Q:=fun f s'=>False) (E:=fun e s'=>Q (.error e) s')
   (nS (show (dk q.Γ).handled=none from e4) (hr.own _ _ _ e2) hl ?_) _)
  have z:=kk () h hr
  rw [<- hr.size] at z
  exact z)
noncomputable def cX (i j:Nat) (it l k ep:Nat) (xs:Array Value) (v:Value) (hx:xs[k]?=some v):aL E d os:=
 aL.leaf Unit () (fun q=>(cN q.code,ad q.m i,ad q.m j)) (some ("list_iterator.__next__",[.ref it]),some (it,ba l k),some (l,ac xs ep)) (fun _ _=>v) (fun _ q=>cg q.m i (ba l (k+1))) (fun _ q=>q.n) (fun _ q=>q.tk) (fun _=>True) (by
  intro h₀ Y q Q h g e' hc hg hr kk
  simp only [Prod.mk.injEq] at e'
  obtain ⟨e1,e2,e3⟩:=e'
  refine aP (hc.trans (iv e1)) hW ?_
  refine Sem.wp_mono _ _ _ (fun a p' s' h'=>?_) (fun e p' s' h'=>h'.elim) _ _ (bm (Q:=fun f s'=>∃ v,f=.done (.ret v)/\Q (.ok (.ret v)) s') (E:=fun _ _=>False)
   (jB (hr.own _ _ _ e2) (hr.own _ _ _ e3) hx fun h' he hs=>⟨_,rfl,kk () trivial h' g hg (hr.chg e2 he (hs.1.trans hr.size) (Nat.le_refl _) fun b x hb hx=>(hs.2 b hb).trans hx)⟩) _)
  obtain ⟨v,rfl,h'⟩:=h'
  exact h')
noncomputable def fU (i j:Nat) (it l k ep:Nat) (xs:Array Value) (hx:xs.size<=k):aL E d os:=
 aL.stop Obj iW (fun q=>(cN q.code,ad q.m i,ad q.m j,q.Γ.handled)) (some ("list_iterator.__next__",[.ref it]),some (it,ba l k),some (l,ac xs ep),none) (fun o q=>cg q.m i o) (by
  intro h₀ Y q Q h g e' hc hg hr kk
  simp only [Prod.mk.injEq] at e'
  obtain ⟨e1,e2,e3,e4⟩:=e'
  refine aP (hc.trans (iv e1)) hW ?_
  refine Sem.wp_mono _ _ _ (fun a p' s' h'=>h'.elim) (fun e p' s' h'=>h') _ _ (bm (Q:=fun f s'=>False) (E:=fun e s'=>Q (.error e) s')
   (nT (show (dk q.Γ).handled=none from e4) (hr.own _ _ _ e2) (hr.own _ _ _ e3) hx fun h' o' he hs=>?_) _)
  have z:=kk o' h' (hr.chg e2 he (hs.1.trans hr.size) (Nat.le_refl _) fun b x hb hx=>(hs.2 b hb).trans hx)
  rw [<- hr.size] at z
  exact z)
end
section
open PySem.W
noncomputable section
abbrev pw:Program:=PySem.Challenge.pw_dn0006_02
noncomputable def Fw:List Stmt:=pw.main.body
noncomputable def st (i:Nat):Stmt:=Fw.getD i (.Pass ⟨0,0,0,0⟩)
noncomputable def I3:Stmt->List Stmt
 | .FunctionDef _ _ b _ _ _ _ _ _ _=>b
 | .ClassDef _ _ _ b _ _ _ _ _ _ _=>b
 | _=>[]
noncomputable def LS:Stmt->Arguments
 | .FunctionDef _ a _ _ _ _ _ _ _ _=>a
 | _=>default
noncomputable def LU:Stmt->Scope
 | .FunctionDef _ _ _ _ _ _ s _ _ _=>s
 | _=>default
noncomputable def sc (i j:Nat):Stmt:=(I3 (st i)).getD j (.Pass ⟨0,0,0,0⟩)
noncomputable def fo (s:Stmt) (name qual:Str) (globals:Addr) (closure:List (Str×Addr)) (dflt rr LV LW:Value) (LX:Option Addr) (code I4:Value) (bi:Addr):FuncData:=
 ⟨name,qual,LS s,.stmts (I3 s),LU s,globals,closure,dflt,rr,LV,LW,LX,code,I4,bi⟩
noncomputable def en (P:Params) (z:Str) (t:Tok) (v:Value):DictEntry:=⟨PyData.keyHash P z,.str z t,v⟩
noncomputable def tr (f:Nat->Obj) (n:Nat) (d:Nat):Nat->Nat->BT:=
 @Nat.rec (fun _=>Nat->Nat->BT) (fun _ _=>.nil) (fun _ ih a b=>@Bool.rec (fun _=>BT) .nil (.node (f b) (ih (Nat.mul 2 a) (Nat.add a b)) (ih (Nat.mul 2 a) (Nat.add (Nat.mul 2 a) b))) (Nat.blt b n)) d
noncomputable def bR:Drawn:={}
section
noncomputable def sY(l:List Nat):Str:=⟨⟨l⟩⟩
noncomputable def sG(n:Nat):Nat->List Nat:=@Nat.rec (fun _=>Nat->List Nat) (fun _=>[]) (fun _ ih n=>@Bool.rec (fun _=>List Nat) (Nat.mod n 256::ih (Nat.div n 256)) [] (Nat.beq n 0)) n
noncomputable def sZ(n:Nat):Str:=⟨⟨sG 999 n⟩⟩
noncomputable def eN(P:Params)(z:Str)(t:Nat):=en P z t .none
noncomputable def eR(P:Params)(z:Str)(t a:Nat):=en P z t (.ref a)
noncomputable def eS(P:Params)(z:Str)(t:Nat)(y:Str)(u:Nat):=en P z t (.str y u)
noncomputable def eB(P:Params)(z:Str)(t:Nat)(q:String):=en P z t (.builtin q)
noncomputable def eT(P:Params)(z:Str)(t:Nat)(q:String):=en P z t (.type q)
noncomputable def eI(P:Params)(z:Str)(t:Nat)(i:Int)(u:Nat):=en P z t (.int i u)
noncomputable def eO(P:Params)(z:Str)(t:Nat)(b:Bool):=en P z t (.bool b)
noncomputable def oD(q:String)(l:List DictEntry)(n:Nat):Obj:=⟨.type q,.none,.dict ⟨l⟩ n,⟨[]⟩⟩
noncomputable def oE(l:List DictEntry)(n:Nat):Obj:=⟨.none,.none,.dict ⟨l⟩ n,⟨[]⟩⟩
noncomputable def wE{α:Type}(l:List α):Nat->List α:=@List.rec α (fun _=>Nat->List α) (fun _=>[]) (fun x _ ih n=>@Nat.rec (fun _=>List α) [] (fun m _=>x::ih m) n) l
noncomputable def wF{α:Type}(d:α)(l:List α):Nat->α:=@List.rec α (fun _=>Nat->α) (fun _=>d) (fun x _ ih n=>@Nat.rec (fun _=>α) x (fun m _=>ih m) n) l
noncomputable def cY(f:Nat->Obj)(l:List (Nat×Obj))(b _:Nat):Obj:=@List.rec (Nat×Obj) (fun _=>Obj) (f b) (fun x _ ih=>@Bool.rec (fun _=>Obj) ih x.2 (Nat.beq b x.1)) l
def z0:=sZ 0x6362612e736e6f697463656c6c6f63
def z1:=sZ 0x666c6573
def z2:=sZ 0x646e696b5f6362615f
def z3:=sZ 0x5f5f656c75646f6d5f5f
def z4:=sZ 0x5f5f6f6e656e696c74737269665f5f
def z5:=sZ 0x5f5f736574756269727474615f6369746174735f5f
def z6:=sZ 0x5f5f726574695f5f
def z7:=sZ 0x736e6f697463656c6c6f632e333133797063
def z8:=sZ 0x5f5f636f645f5f
def z9:=sZ 0x5f5f74696e695f5f
def ed:=sZ 0x736c6f6f7472657469
def er:=sZ 0x5f5f73746f6c735f5f
def et:=sZ 0x726568746f
def eC:=sZ 0x5f5f736e6961746e6f635f5f
def fV:=sZ 0x5f5f656d616e6c6175715f5f
def f9:=sZ 0x736c63
def gp:=sZ 0x5f5f727065725f5f
def dE:=sZ 0x6e6f697463656c6c6f43
def eP:=sZ 0x746553
def gz:=sZ 0x77656956676e697070614d
def gA:=sZ 0x5f5f71655f5f
def gQ:=sZ 0x656c6261726574695f6d6f72665f
def ie:=sZ 0x43
def iS:=sZ 0x6d656c65
def i7:=sZ 0x5f5f6d6574697465675f7373616c635f5f
def i8:=sZ 0x5f5f7478656e5f5f
def jD:=sZ 0x5f5f6e656c5f5f
def kP:=sZ 0x676e697070614d
def kQ:=sZ 0x676e697070616d5f
def kR:=sZ 0x746e756f63
def lZ:=sZ 0x5f5f656c5f5f
def l0:=sZ 0x5f5f746c5f5f
def l1:=sZ 0x5f5f74675f5f
def l3:=sZ 0x5f5f65675f5f
def l4:=sZ 0x5f5f646e615f5f
def l5:=sZ 0x5f5f726f5f5f
def l6:=sZ 0x5f5f6275735f5f
def jE:=sZ 0x64657a6953
def mJ:=sZ 0x7265747369676572
def mK:=sZ 0x5f5f6563756465725f5f
def nV:=sZ 0x5f5f656d616e5f5f
def nW:=sZ 0x79656b
def pj:=sZ 0x6174654d434241
def pk:=sZ 0x656b694c4342415f
def pn:=sZ 0x776569567379654b
def pq:=sZ 0x77656956736d657449
def pr:=sZ 0x776569567365756c6156
def pt:=sZ 0x6e65766947746f4e5f
def pu:=sZ 0x7265747465676d657469
def pv:=sZ 0x7265746e756f43
def px:=sZ 0x5f5f687361685f5f
def py:=sZ 0x736d657469
def pA:=sZ 0x656c626172657469
def pB:=sZ 0x726f74617265706f
def rt:=sZ 0x79702e7475632f6d69616c632f
def ru:=sZ 0x73746e656d656c655f746e756f635f
def rx:=sZ 0x7473656772616c6e
def ry:=sZ 0
def rz:=sZ 0x5f5f746369645f5f
def rE:=sZ 0x5f5f6665726b6165775f5f
def rF:=sZ 0x656d616e
def rH:=sZ 0x6d657469
def rI:=sZ 0x5f5f6d6574697465675f5f
def rJ:=sZ 0x746c75736572
def uq:=sZ 0x5f5f736e6f697461746f6e6e615f5f
def ur:=sZ 0x6c6c61775f
def ut:=sZ 0x6174656d5f6e69616c705f6362615f
def uv:=sZ 0x726574695f7361685f6362615f
def uw:=sZ 0x6e656c5f7361685f6362615f
def ux:=sZ 0x736e6961746e6f635f7361685f6362615f
def uy:=sZ 0x79786f7270676e697070616d5f73695f6362615f
def uz:=sZ 0x6e6f697463656c6c6f635f6e69746c6975625f73695f6362615f
def pC:=sZ 0x656c626172657449
def uA:=sZ 0x72656e6961746e6f43
def uB:=sZ 0x746e695f73695f
def uC:=sZ 0x656c6f68775f
def uD:=sZ 0x6c6c75705f
def uE:=sZ 0x6e69616863
def uF:=sZ 0x73746e756f635f77616c5f
def uG:=sZ 0x5f5f73646f6874656d74636172747362615f5f
def uH:=sZ 0x746e696f6a7369647369
def uI:=sZ 0x5f5f627573725f5f
def uJ:=sZ 0x5f5f726f785f5f
def uK:=sZ 0x687361685f
def uL:=sZ 0x746567
def uM:=sZ 0x7379656b
def uN:=sZ 0x7365756c6176
def uO:=sZ 0x656c6261726574695f6d6f7266
def uP:=sZ 0x656372756f735f
def uQ:=sZ 0x6576697463615f
def uR:=sZ 0x746e656d656c655f
def uS:=sZ 0x746e635f
def uT:=sZ 0x74695f
def uU:=sZ 0x636e75665f
def uV:=sZ 0x736d6574695f
def uW:=sZ 0x7379656b6d6f7266
def uX:=sZ 0x5f5f7373616c635f5f
def uY:=sZ 0x5f5f6e69616d5f5f
def wG:=sZ 0x71706165685f
def wH:=sZ 0x746165706572
def pD:=sZ 0x70616d72617473
def pE:=sZ 0x77616c
def pG:=sZ 0x5f5f6b6365686365636e6174736e695f5f
def pI:=sZ 0x5f5f6b636568637373616c636275735f5f
def pJ:=sZ 0x5f5f746e69685f6874676e656c5f5f
def pK:=sZ 0x5f5f6c6c61635f5f
def pM:=sZ 0x5f5f676e697373696d5f5f
def pN:=sZ 0x6c61746f74
def pO:=sZ 0x6e6f6d6d6f635f74736f6d
def pP:=sZ 0x73746e656d656c65
def pQ:=sZ 0x657461647075
def pR:=sZ 0x7463617274627573
def pS:=sZ 0x79706f63
def pT:=sZ 0x5f5f6d6574696c65645f5f
def pV:=sZ 0x5f5f656e5f5f
def pW:=sZ 0x5f5f6464615f5f
def pZ:=sZ 0x5f5f736f705f5f
def p7:=sZ 0x5f5f67656e5f5f
def p8:=sZ 0x6576697469736f705f7065656b5f
def qd:=sZ 0x5f5f646461695f5f
def qe:=sZ 0x5f5f627573695f5f
def qf:=sZ 0x5f5f726f695f5f
def qg:=sZ 0x5f5f646e61695f5f
def sQ:=sZ 0x5f5f6567616b6361705f5f
def sR:=sZ 0x5f5f726564616f6c5f5f
def sS:=sZ 0x5f5f636570735f5f
def sT:=sZ 0x736e6f697463656c6c6f635f
def wI:=sZ 0x32305f363030306e645f77616c
def sU:=sZ 0x6575716564
def sV:=sZ 0x79666970616568
def sW:=sZ 0x6563616c70657270616568
def sX:=sZ 0x68746170
def s0:=sZ 0x636261
def ta:=sZ 0x7469
def td:=sZ 0x656c6261726574695f6d6f72665f2e746553
def tg:=sZ 0x656c6261726574695f6d6f72665f2e776569567379654b
def th:=sZ 0x656c6261726574695f6d6f72665f2e77656956736d657449
def ti:=sZ 0x656c6261726574695f6d6f72662e6e69616863
def tj:=sZ 0x7379656b6d6f72662e7265746e756f43
def tm:=sZ 0x746e756f6377656e
def tn:=sZ 0x746e756f635f726568746f
def wJ:=sZ 0x656c75646f6d5f657461657263
def wK:=sZ 0x656c75646f6d5f63657865
def wL:=sZ 0x6567616b6361705f7369
def wM:=sZ 0x656c75646f6d5f64616f6c
def wN:=sZ 0x726564616f6c
def wO:=sZ 0x6e696769726f
def wP:=sZ 0x65746174735f726564616f6c
def wQ:=sZ 0x736e6f697461636f6c5f6863726165735f656c75646f6d627573
def wR:=sZ 0x73656c75646f6d6275735f64657a696c616974696e696e755f
def wS:=sZ 0x72747461656c69665f7465735f
def wT:=sZ 0x6465686361635f
def wU:=sZ 0x6f732e756e672d78756e696c2d34365f3638782d3331332d6e6f68747970632e71706165685f2f64616f6c6e79642d62696c2f33312e336e6f687479702f62696c2f35312e33312e332d336e6f687479702d36706837776e6e6877376c36623672306c37636a6d7034796b71363566316a772f65726f74732f78696e2f
def wV:=sZ 0x6c616e72657478655f62696c74726f706d695f6e657a6f72665f
def wW:=sZ 0x72657473696765722e6174654d434241
def wX:=sZ 0x5f5f6b6365686365636e6174736e695f5f2e656b694c4342415f
def wY:=sZ 0x5f5f6b636568637373616c636275735f5f2e656b694c4342415f
def wZ:=sZ 0x72657473696765722e656b694c4342415f
def w0:=sZ 0x5f5f726574695f5f2e656c626172657449
def w1:=sZ 0x646e696b5f6362615f2e656c626172657449
def w2:=sZ 0x5f5f6d6574697465675f7373616c635f5f2e656c626172657449
def w3:=sZ 0x5f5f6e656c5f5f2e64657a6953
def w4:=sZ 0x646e696b5f6362615f2e64657a6953
def w5:=sZ 0x78
def w6:=sZ 0x5f5f736e6961746e6f635f5f2e72656e6961746e6f43
def w7:=sZ 0x646e696b5f6362615f2e72656e6961746e6f43
def w8:=sZ 0x5f5f6d6574697465675f7373616c635f5f2e72656e6961746e6f43
def w9:=sZ 0x646e696b5f6362615f2e6e6f697463656c6c6f43
def xa:=sZ 0x5f5f646e61725f5f
def xb:=sZ 0x5f5f726f725f5f
def xc:=sZ 0x5f5f726f78725f5f
def xd:=sZ 0x5f5f656c5f5f2e746553
def xf:=sZ 0x5f5f746c5f5f2e746553
def xg:=sZ 0x5f5f74675f5f2e746553
def xh:=sZ 0x5f5f65675f5f2e746553
def xi:=sZ 0x5f5f71655f5f2e746553
def xj:=sZ 0x5f5f646e615f5f2e746553
def xk:=sZ 0x746e696f6a73696473692e746553
def xl:=sZ 0x5f5f726f5f5f2e746553
def xm:=sZ 0x5f5f6275735f5f2e746553
def xn:=sZ 0x5f5f627573725f5f2e746553
def xo:=sZ 0x5f5f726f785f5f2e746553
def xp:=sZ 0x687361685f2e746553
def xq:=sZ 0x646e696b5f6362615f2e746553
def xr:=sZ 0x5f5f64657372657665725f5f
def xt:=sZ 0x5f5f6d6574697465675f5f2e676e697070614d
def xu:=sZ 0x7465672e676e697070614d
def xv:=sZ 0x5f5f736e6961746e6f635f5f2e676e697070614d
def xw:=sZ 0x7379656b2e676e697070614d
def xx:=sZ 0x736d6574692e676e697070614d
def xy:=sZ 0x7365756c61762e676e697070614d
def xz:=sZ 0x5f5f71655f5f2e676e697070614d
def xA:=sZ 0x646e696b5f6362615f2e676e697070614d
def xB:=sZ 0x5f5f74696e695f5f2e77656956676e697070614d
def xC:=sZ 0x5f5f6e656c5f5f2e77656956676e697070614d
def xD:=sZ 0x5f5f727065725f5f2e77656956676e697070614d
def xE:=sZ 0x646e696b5f6362615f2e77656956676e697070614d
def xF:=sZ 0x5f5f6d6574697465675f7373616c635f5f2e77656956676e697070614d
def xG:=sZ 0x5f5f736e6961746e6f635f5f2e776569567379654b
def xH:=sZ 0x5f5f726574695f5f2e776569567379654b
def xI:=sZ 0x646e696b5f6362615f2e776569567379654b
def xJ:=sZ 0x76
def xK:=sZ 0x5f5f736e6961746e6f635f5f2e77656956736d657449
def xL:=sZ 0x5f5f726574695f5f2e77656956736d657449
def xM:=sZ 0x646e696b5f6362615f2e77656956736d657449
def xN:=sZ 0x5f5f736e6961746e6f635f5f2e776569567365756c6156
def xO:=sZ 0x5f5f726574695f5f2e776569567365756c6156
def xP:=sZ 0x646e696b5f6362615f2e776569567365756c6156
def xQ:=sZ 0x5f5f74696e695f5f2e6e69616863
def xR:=sZ 0x5f5f726574695f5f2e6e69616863
def xS:=sZ 0x5f5f7478656e5f5f2e6e69616863
def xT:=sZ 0x5f5f74696e695f5f2e746165706572
def xU:=sZ 0x5f5f726574695f5f2e746165706572
def xV:=sZ 0x5f5f7478656e5f5f2e746165706572
def xW:=sZ 0x5f5f727065725f5f2e746165706572
def xX:=sZ 0x5f5f746e69685f6874676e656c5f5f2e746165706572
def xY:=sZ 0x5f5f74696e695f5f2e70616d72617473
def xZ:=sZ 0x5f5f726574695f5f2e70616d72617473
def x7:=sZ 0x5f5f7478656e5f5f2e70616d72617473
def x8:=sZ 0x5f5f74696e695f5f2e7265747465676d657469
def x9:=sZ 0x5f5f6c6c61635f5f2e7265747465676d657469
def ya:=sZ 0x5f5f727065725f5f2e7265747465676d657469
def yb:=sZ 0x5f5f6563756465725f5f2e7265747465676d657469
def yc:=sZ 0x7364776b
def yd:=sZ 0x5f5f74696e695f5f2e7265746e756f43
def ye:=sZ 0x5f5f676e697373696d5f5f2e7265746e756f43
def yf:=sZ 0x6c61746f742e7265746e756f43
def yg:=sZ 0x6e6f6d6d6f635f74736f6d2e7265746e756f43
def yh:=sZ 0x73746e656d656c652e7265746e756f43
def yi:=sZ 0x6574616470752e7265746e756f43
def yj:=sZ 0x74636172746275732e7265746e756f43
def yk:=sZ 0x79706f632e7265746e756f43
def yl:=sZ 0x5f5f6563756465725f5f2e7265746e756f43
def ym:=sZ 0x5f5f6d6574696c65645f5f2e7265746e756f43
def yn:=sZ 0x5f5f727065725f5f2e7265746e756f43
def yo:=sZ 0x5f5f71655f5f2e7265746e756f43
def yp:=sZ 0x5f5f656e5f5f2e7265746e756f43
def yq:=sZ 0x5f5f656c5f5f2e7265746e756f43
def yr:=sZ 0x5f5f746c5f5f2e7265746e756f43
def yt:=sZ 0x5f5f65675f5f2e7265746e756f43
def yu:=sZ 0x5f5f74675f5f2e7265746e756f43
def yv:=sZ 0x5f5f6464615f5f2e7265746e756f43
def yw:=sZ 0x5f5f6275735f5f2e7265746e756f43
def yx:=sZ 0x5f5f726f5f5f2e7265746e756f43
def yy:=sZ 0x5f5f646e615f5f2e7265746e756f43
def yz:=sZ 0x5f5f736f705f5f2e7265746e756f43
def yA:=sZ 0x5f5f67656e5f5f2e7265746e756f43
def yB:=sZ 0x6576697469736f705f7065656b5f2e7265746e756f43
def yC:=sZ 0x5f5f646461695f5f2e7265746e756f43
def yD:=sZ 0x5f5f627573695f5f2e7265746e756f43
def yE:=sZ 0x5f5f726f695f5f2e7265746e756f43
def yF:=sZ 0x5f5f646e61695f5f2e7265746e756f43
def Fx:=sZ 0x736e69746c697562
def Fy:=sZ 0x7463656a626f
def Fz:=sZ 0x5f5f656c69665f5f
def FA:=sZ 0x3e656c75646f6d3c
def FB:=sZ 0x62696c74726f706d695f6e657a6f72665f
def FC:=sZ 0x6e692d746c697562
def FD:=sZ 0x65646f635f746567
def FE:=sZ 0x656372756f735f746567
def FF:=sZ 0x726574726f706d496e69746c697542
def FG:=sZ 0x676e697a696c616974696e695f
def FH:=sZ 0x63657053656c75646f4d
def FI:=sZ 0x736369736142726564616f4c5f
def FJ:=sZ 0x656d616e656c69665f746567
def FK:=sZ 0x726564616f4c656c6946
def FO:=sZ 0x726564616f4c656c69466e6f69736e65747845
def FP:=sZ 0x7373616c63627573
def FQ:=sZ 0x676e697070616d
def FR:=sZ 0x65756c6176
def FS:=sZ 0x706f74
def FT:=sZ 0x746e63
def FU:=sZ 0x7465675f666c6573
noncomputable def q0:=SL.s2766695959194262286x5
noncomputable def q1:=SL.s14018661285674007319x4
noncomputable def q2:=SL.s2742458400755230247x6
noncomputable def q3:=SL.s11443829558043349243x14
noncomputable def q4:=SL.s4860613602091757760x24
noncomputable def q5:=SL.s9222952809800978799x4
noncomputable def q6:=SL.s17162191345867700912x4
noncomputable def q7:=SL.s10062305145149207511x16
noncomputable def q8:=SL.s7174869446012820540x8
noncomputable def q9:=SL.s591115383303110208x11
noncomputable def q10:=SL.s10852414792293593619x7
noncomputable def aH:=SL.s5856160107412720595x4
noncomputable def aK:=SL.s4290257624100764138x5
noncomputable def q13:=SL.s5314052453082223887x17
noncomputable def q14:=SL.s9263121217426465444x14
noncomputable def fH:=SL.s261454370922247064x18
noncomputable def gR:=SL.s14755015743595814543x17
noncomputable def gS:=SL.s11030030927630378310x26
noncomputable def gT:=SL.s2094845164707466600x12
noncomputable def af(a:String):Obj:=⟨.type a,.none,.seq ⟨[]⟩ 0,⟨[]⟩⟩
noncomputable def aM:Obj:=⟨.none,.none,.fields ⟨[]⟩,⟨[]⟩⟩
noncomputable def aO(a:Str)(b:Nat)(c:Str)(d e f g:Int)(h:Nat)(i:Int)(j:Nat):Obj:=⟨.type aH,.none,.fields ⟨[.str a b,.str c (Nat.add b 1),.str rt (Nat.add b 2),.int d 0,.int e 0,.int f 0,.int 0 0,.int g 0,.ref h,.bool true,.int 379 0,.ref (Nat.add h 1),.none,.ref (Nat.add h 2),.ref (Nat.add h 3),.ref (Nat.add h 4),.int i 0,.int d 0,.str rt j]⟩,⟨[]⟩⟩
noncomputable def aU(a b:Nat)(c d:Str):Obj:=⟨.none,.none,.func (fo (sc a b) c d 0 [] (.none) (.none) (.none) (.none) .none (.none) (.none) 0),⟨[]⟩⟩
noncomputable def bn(a b:Nat)(c d e:Str)(f g:Nat):Obj:=⟨.type q8,.none,.func (fo (sc a b) c d 3 [] (.none) (.none) (.none) (.str e f) .none (.ref g) (.none) 0),⟨[]⟩⟩
noncomputable def bH(a:String)(b:Str)(c:Nat)(d:Str)(e:Nat):Obj:=⟨.type a,.none,.seq ⟨[.str b c,.str d (Nat.add c 1)]⟩ e,⟨[]⟩⟩
noncomputable def cR(a:String)(b:Str)(c d:Nat):Obj:=⟨.type a,.none,.seq ⟨[.str b c]⟩ d,⟨[]⟩⟩
noncomputable def eQ(a:String)(b:Nat):Obj:=⟨.type gS,.none,.fields ⟨[.builtin a,.ref b]⟩,⟨[]⟩⟩
noncomputable def gB(a:Str)(b:Nat)(c:Int)(d:Nat)(e f:Int):Obj:=⟨.type aH,.none,.fields ⟨[.str a b,.str a (Nat.add b 1),.str rt (Nat.add b 2),.int c 0,.int 0 0,.int 0 0,.int 0 0,.int 0 0,.ref d,.bool false,.int e 0,.ref (Nat.add d 1),.none,.none,.none,.none,.int f 0,.int c 0,.str rt (Nat.add b 4)]⟩,⟨[]⟩⟩
noncomputable def ek(a b:Nat)(c:Str)(d:Nat):Obj:=⟨.type SL.s658472552662922059x5,.none,.plain,⟨[.some (.ref a),.some (.ref 3),.some (.ref b),.none,.some (.str c d),.none,.some (.ref 0)]⟩⟩
noncomputable def eV(a:Nat):Obj:=⟨.type aK,.none,.fields ⟨[.ref a,.ref a,.ref a]⟩,⟨[]⟩⟩
noncomputable def gg(a:Nat)(b:Str):Obj:=⟨.none,.none,.func (fo (st a) b b 0 [] (.none) (.none) (.none) (.none) .none (.none) (.none) 0),⟨[]⟩⟩
noncomputable def gC(a:Nat)(b c:Str)(d e:Nat):Obj:=⟨.type q8,.none,.func (fo (st a) b b 3 [] (.none) (.none) (.none) (.str c d) .none (.ref e) (.none) 0),⟨[]⟩⟩
noncomputable def gD(a:Str)(b:Nat)(c d:Str):Obj:=⟨.type q0,.none,.seq ⟨[.str a b,.str c (Nat.add b 1),.str d (Nat.add b 2)]⟩ 0,⟨[]⟩⟩
noncomputable def kz:Obj:=⟨.type gS,.none,.fields ⟨[.builtin q7,.type q6]⟩,⟨[]⟩⟩
noncomputable def kC(a:Nat):Obj:=⟨.type q0,.none,.seq ⟨[.ref a]⟩ 0,⟨[]⟩⟩
noncomputable def kD(a:Str)(b c:Nat)(d:Int):Obj:=⟨.type SL.s5699418376593618685x17,.none,.fields ⟨[.str a b,.ref c,.builtin SL.s6779124196712981104x10,.builtin SL.s2924395122027826103x14,.int d 0]⟩,⟨[]⟩⟩
noncomputable def kE(a:Str)(b:Nat)(c d e:Str):Obj:=⟨.type q0,.none,.seq ⟨[.str a b,.str c (Nat.add b 1),.str d (Nat.add b 2),.str e (Nat.add b 3)]⟩ 0,⟨[]⟩⟩
noncomputable def l7:Obj:=⟨.type q0,.none,.seq ⟨[.none]⟩ 0,⟨[]⟩⟩
noncomputable def m9(a b:Nat):Obj:=⟨.type gR,.none,.fields ⟨[.str rz a,.ref b,.builtin SL.s6511155373996960695x17,.builtin SL.s12411053484034534018x21]⟩,⟨[]⟩⟩
noncomputable def nc(a b:Nat):Obj:=⟨.type gR,.none,.fields ⟨[.str rE a,.ref b,.builtin SL.s10220274742760427390x26,.none]⟩,⟨[]⟩⟩
noncomputable def qh(a:Int)(b:Nat)(c d:Int):Obj:=⟨.none,.none,.fields ⟨[.int a 0,.int 4 0,.ref b,.int c 0,.int 4 0,.ref (Nat.add b 7),.int d 0,.int 4 0,.ref (Nat.add b 14)]⟩,⟨[]⟩⟩
noncomputable def qi(a b:Nat):Obj:=⟨.type q9,(.some a),.fields ⟨[.ref b,.bool false]⟩,⟨[]⟩⟩
noncomputable def tp(a:Nat):Obj:=⟨.type SL.s6658869562736209489x6,(.some a),.plain,⟨[]⟩⟩
noncomputable def tq(a b:Nat)(c d e:Str)(f g h:Nat):Obj:=⟨.type q8,.none,.func (fo (sc a b) c d 3 [] (.none) (.none) (.none) (.str e f) (.some g) (.ref h) (.none) 0),⟨[]⟩⟩
noncomputable def ts(a b:Nat)(c d:Str)(e:Nat)(f:Str)(g:Nat):Obj:=⟨.type q8,.none,.func (fo (sc a b) c d 3 [] (.ref e) (.none) (.none) (.str f g) .none (.ref (Nat.add e 6)) (.none) 0),⟨[]⟩⟩
noncomputable def tt(a:Int)(b:Nat)(c:Int)(d:Nat)(e:Int)(f:Nat)(g:Int):Obj:=⟨.none,.none,.fields ⟨[.int a 0,.int 4 0,.ref b,.int c 0,.int 4 0,.ref d,.int e 0,.int 4 0,.ref f,.int g 0,.int 4 0,.ref (Nat.add f 7)]⟩,⟨[]⟩⟩
noncomputable def tv(a:Nat)(b c d e:Str):Obj:=⟨.type q0,.none,.seq ⟨[.str z1 a,.str b (Nat.add a 1),.str c (Nat.add a 2),.str d (Nat.add a 3),.str e (Nat.add a 4)]⟩ 0,⟨[]⟩⟩
noncomputable def tw(a:Str)(b:Nat)(c:Str)(d e:Int)(f:Nat)(g:Int):Obj:=⟨.type aH,.none,.fields ⟨[.str a b,.str c (Nat.add b 1),.str rt (Nat.add b 2),.int d 0,.int e 0,.int 0 0,.int 0 0,.int 3 0,.ref f,.bool true,.int 379 0,.ref (Nat.add f 1),.none,.none,.none,.ref (Nat.add f 2),.int g 0,.int d 0,.str rt (Nat.add b 4)]⟩,⟨[]⟩⟩
noncomputable def tz(a:Nat)(b c d e f:Str):Obj:=⟨.type q0,.none,.seq ⟨[.str z1 a,.str b (Nat.add a 1),.str c (Nat.add a 2),.str d (Nat.add a 3),.str e (Nat.add a 4),.str f (Nat.add a 5)]⟩ 0,⟨[]⟩⟩
noncomputable def yG(a b:Nat):Obj:=⟨.ref a,(.some b),.plain,⟨[]⟩⟩
noncomputable def nf(a:Str)(b c d:Nat):Obj:=⟨.ref 110,.none,.cls ⟨a,[.type q2],[.ref b,.type q2],c,a,false,[],[.ref 276],true,.none,false⟩,⟨[.none,.none,.some (.str a d),.some (.str a (Nat.add d 8)),.some (.builtin q3),.some (.bool false)]⟩⟩
noncomputable def yH(a:Nat):Obj:=⟨.type q9,.none,.fields ⟨[.ref a]⟩,⟨[]⟩⟩
noncomputable def yI(a:Nat):Obj:=⟨.type q0,.none,.seq ⟨[.ref 514,.ref a]⟩ 0,⟨[]⟩⟩
noncomputable def yJ(a:Nat)(b c d e f g:Str):Obj:=⟨.type q0,.none,.seq ⟨[.str z1 a,.str b (Nat.add a 1),.str c (Nat.add a 2),.str d (Nat.add a 3),.str e (Nat.add a 4),.str f (Nat.add a 5),.str g (Nat.add a 6)]⟩ 0,⟨[]⟩⟩
noncomputable def yK(a:Str)(b c:Nat)(d e:Str)(f:Nat):Obj:=⟨.type q6,.none,.cls ⟨a,[.type q2],[.ref b,.type q2],c,a,false,[d,e],[],false,.none,false⟩,⟨[.none,.none,.some (.str a f),.some (.str a (Nat.add f 8)),.some (.builtin q3),.some (.bool false)]⟩⟩
noncomputable def ng(a:Str)(b c d:Nat):Obj:=⟨.ref 110,.none,.cls ⟨a,[.type q2],[.ref b,.type q2],c,a,false,[],[],true,.none,false⟩,⟨[.none,.none,.some (.str a d),.some (.str a (Nat.add d 8)),.some (.builtin q3),.some (.bool false)]⟩⟩
def eE(P:Params):List DictEntry:=[eN P z8 166,eN P sQ 167,eB P sR 168 SL.s7097527257260152453x26,eN P sS 169,eR P uq 170 6,eR P (sZ 0x5f5f736e69746c6975625f5f) 171 4,eS P Fz 173 rt 172,eN P (sZ 0x5f5f6465686361635f5f) 174,eT P sU 272 q13,eB P sV 375 q14,eB P sW 378 fH,eR P ur 391 60,eR P pj 417 77,eR P pk 460 110,eR P ut 467 119,eR P uv 474 126,eR P uw 481 133,eR P ux 488 140,eR P uy 495 147,eR P uz 502 154,eR P pC 543 187,eR P jE 580 217,eR P uA 627 253,eR P dE 657 276,eR P eP 814 392,eR P kP 902 464,eR P gz 970 514,eR P pn 1030 561,eR P pq 1094 606,eR P pr 1137 641,eR P uB 1147 650,eR P uC 1156 657,eR P uD 1163 664,eR P pt 1183 674,eR P uE 1258 721,eR P wH 1322 773,eR P pD 1371 810,eR P ru 1383 821,eR P rx 1391 827,eR P pu 1449 867,eR P pv 1762 1093,eR P uF 1770 1102,eR P pE 1776 1107]
noncomputable def eF:List Value:=[.int 3 0,.int 0 0,.ref 59,.int 7 0,.int 0 0,.ref 66,.int 12 0,.int 0 0,.ref 85,.int 27 0,.int 0 0,.ref 118,.int 30 0,.int 0 0,.ref 125,.int 33 0,.int 0 0,.ref 132,.int 36 0,.int 0 0,.ref 139,.int 39 0,.int 0 0,.ref 146,.int 41 0,.int 0 0,.ref 153,.int 43 0,.int 0 0,.ref 160,.int 59 0,.int 0 0,.ref 197,.int 71 0,.int 0 0,.ref 226,.int 86 0,.int 0 0,.ref 263,.int 97 0,.int 0 0,.ref 285,.int 186 0,.int 0 0,.ref 401,.int 227 0,.int 0 0,.ref 473,.int 248 0,.int 0 0,.ref 524,.int 266 0,.int 0 0,.ref 569,.int 291 0,.int 0 0,.ref 614,.int 311 0,.int 0 0,.ref 649,.int 314 0,.int 0 0,.ref 656,.int 319 0,.int 0 0,.ref 663,.int 324 0,.int 0 0,.ref 670,.int 326 0,.int 0 0,.ref 684,.int 378 0,.int 0 0,.ref 731,.int 412 0,.int 0 0,.ref 783,.int 428 0,.int 0 0,.ref 820,.int 433 0,.int 0 0,.ref 826,.int 479 0,.int 0 0,.ref 833,.int 505 0,.int 0 0,.ref 877,.int 700 0,.int 0 0,.ref 1101,.int 702 0,.int 0 0,.ref 1106]
noncomputable def oA(P:Params)(z:Str)(t n m:Nat):Obj:=oD q1 (eS P nV 165 z t::wE (eE P) n) m
noncomputable def oB(n:Nat):Obj:=⟨.none,.none,.fields ⟨wE eF n⟩,⟨[]⟩⟩
def yL:Obj:=aO gA 1581 yo 575 2 0 3 974 1588 1589
def LY(P:Params):List (List Obj):=[[oD q1 [eS P nV 1 Fx 160,eB P z8 2 "builtins.__doc__:str#opaque",eB P sQ 3 "builtins.__package__:str#opaque",eB P sR 4 "builtins.__loader__:shared#opaque",eB P sS 5 SL.s11665532747177232413x24,eB P (sZ 0x5f5f7373616c635f646c6975625f5f) 6 SL.s15183661809925369436x15,eB P (sZ 0x5f5f74726f706d695f5f) 7 SL.s13915890719876406383x10,eB P (sZ 0x736261) 8 SL.s13459172003223722735x3,eB P (sZ 0x6c6c61) 9 SL.s10557405761357834076x3,eB P (sZ 0x796e61) 10 SL.s4233737765568776869x3,eB P (sZ 0x6969637361) 11 SL.s2508922471967985374x5,eB P (sZ 0x6e6962) 12 SL.s15574269061696679450x3,eB P (sZ 0x746e696f706b61657262) 13 SL.s6016482663378992977x10,eB P (sZ 0x656c62616c6c6163) 14 SL.s5596568736180474577x8,eB P (sZ 0x726863) 15 SL.s2839554839881490554x3,eB P (sZ 0x656c69706d6f63) 16 SL.s725004073602090463x7,eB P (sZ 0x727474616c6564) 17 SL.s9436932552931045734x7,eB P (sZ 0x726964) 18 SL.s2754603736356183583x3,eB P (sZ 0x646f6d766964) 19 SL.s15185746759980889043x6,eB P (sZ 0x6c617665) 20 SL.s8192189862530294059x4,eB P (sZ 0x63657865) 21 SL.s7038307821325472102x4,eB P (sZ 0x74616d726f66) 22 SL.s5662562618415449548x6,eB P (sZ 0x72747461746567) 23 SL.s15281542589158584767x7,eB P (sZ 0x736c61626f6c67) 24 SL.s17651547275483570877x7,eB P (sZ 0x72747461736168) 25 SL.s4036449017235975746x7,eB P (sZ 0x68736168) 26 SL.s8879979712987360175x4,eB P (sZ 0x786568) 27 SL.s1801250619170735830x3,eB P (sZ 0x6469) 28 SL.s17659931425627118568x2,eB P (sZ 0x7475706e69) 29 SL.s6063217899685152688x5,eB P (sZ 0x65636e6174736e697369) 30 SL.s8008927332132565319x10,eB P (sZ 0x7373616c636275737369) 31 SL.s3544116645089599534x10,eB P (sZ 0x72657469) 32 SL.s13761710972054866084x4,eB P (sZ 0x7265746961) 33 SL.s12896375587409280029x5,eB P (sZ 0x6e656c) 34 SL.s13014049009108672802x3,eB P (sZ 0x736c61636f6c) 35 SL.s13935586738268321596x6,eB P (sZ 0x78616d) 36 SL.s8200498257699607233x3,eB P (sZ 0x6e696d) 37 SL.s14114244577727609259x3,eB P (sZ 0x7478656e) 38 SL.s1499430450269397089x4,eB P (sZ 0x7478656e61) 39 SL.s8755793994789770505x5,eB P (sZ 0x74636f) 40 SL.s15725212667919936108x3,eB P (sZ 0x64726f) 41 SL.s15791221867095933363x3,eB P (sZ 0x776f70) 42 SL.s81309575031448614x3,eB P (sZ 0x746e697270) 43 SL.s8069831620301644142x5,eB P (sZ 0x72706572) 44 SL.s10061844253413749634x4,eB P (sZ 0x646e756f72) 45 SL.s9496514870978017513x5,eB P (sZ 0x72747461746573) 46 SL.s8899691144933366716x7,eB P (sZ 0x646574726f73) 47 SL.s15201008993051130160x6,eB P (sZ 0x6d7573) 48 SL.s741896355592496720x3,eB P (sZ 0x73726176) 49 SL.s17925004256654032244x4,eN P (sZ 0x656e6f4e) 50,en P (sZ 0x73697370696c6c45) 51 (.ellipsis),en P (sZ 0x6465746e656d656c706d49746f4e) 52 (.notImplemented),eO P (sZ 0x65736c6146) 53 false,eO P (sZ 0x65757254) 54 true,eT P (sZ 0x6c6f6f62) 55 SL.s11695548795398191787x4,eT P (sZ 0x7765697679726f6d656d) 56 SL.s4156966113859768872x10,eT P (sZ 0x796172726165747962) 57 SL.s9501651726347032510x9,eT P (sZ 0x7365747962) 58 SL.s15722918466584999320x5,eT P (sZ 0x646f6874656d7373616c63) 59 q9,eT P (sZ 0x78656c706d6f63) 60 SL.s15721156781594690315x7,eT P (sZ 0x74636964) 61 q1,eT P (sZ 0x65746172656d756e65) 62 SL.s14340494229221121180x9,eT P (sZ 0x7265746c6966) 63 SL.s13429844117177748173x6,eT P (sZ 0x74616f6c66) 64 SL.s16463266125957815391x5,eT P (sZ 0x7465736e657a6f7266) 65 SL.s4922535414793169389x9,eT P (sZ 0x79747265706f7270) 66 SL.s8101838861749082086x8,eT P (sZ 0x746e69) 67 SL.s7066276694103001551x3,eT P (sZ 0x7473696c) 68 q5,eT P (sZ 0x70616d) 69 SL.s462964344163437139x3,eT P Fy 70 q2,eT P (sZ 0x65676e6172) 71 SL.s1438033511350832697x5,eT P (sZ 0x6465737265766572) 72 SL.s14365286008749172514x8,eT P (sZ 0x746573) 73 SL.s3642769012341782148x3,eT P (sZ 0x6563696c73) 74 SL.s4674234679698826739x5,eT P (sZ 0x646f6874656d636974617473) 75 SL.s16656946322747308186x12,eT P (sZ 0x727473) 76 SL.s10796804682411823810x3,eT P (sZ 0x7265707573) 77 aK,eT P (sZ 0x656c707574) 78 q0,eT P (sZ 0x65707974) 79 q6,eT P (sZ 0x70697a) 80 SL.s14339709457334898076x3,eO P (sZ 0x5f5f67756265645f5f) 81 true,eT P (sZ 0x6e6f6974706563784565736142) 82 SL.s4278001404047624695x13,eT P (sZ 0x70756f72476e6f6974706563784565736142) 83 SL.s6585700554429387442x18,eT P (sZ 0x6e6f69747065637845) 84 SL.s5946037652744460706x9,eT P (sZ 0x74697845726f746172656e6547) 85 SL.s7410770068591931388x13,eT P (sZ 0x747075727265746e496472616f6279654b) 86 SL.s11817881795495490833x17,eT P (sZ 0x746978456d6574737953) 87 SL.s15679963881808890155x10,eT P (sZ 0x726f727245636974656d6874697241) 88 SL.s3871700062485845797x15,eT P (sZ 0x726f7272456e6f69747265737341) 89 SL.s7689518266570723881x14,eT P (sZ 0x726f727245657475626972747441) 90 SL.s9001593270443806431x14,eT P (sZ 0x726f727245726566667542) 91 SL.s6882542574934516792x11,eT P (sZ 0x726f727245464f45) 92 SL.s14403400214490484960x8,eT P (sZ 0x726f72724574726f706d49) 93 SL.s14457978657717015782x11,eT P (sZ 0x726f72724570756b6f6f4c) 94 SL.s1753610191782819921x11,eT P (sZ 0x726f72724579726f6d654d) 95 SL.s14119380538032626715x11,eT P (sZ 0x726f727245656d614e) 96 SL.s11437920000406562045x9,eT P (sZ 0x726f727245534f) 97 q10,eT P (sZ 0x726f72724565636e657265666552) 98 SL.s14816307405966870543x14,eT P (sZ 0x726f727245656d69746e7552) 99 SL.s8682627914449686677x12,eT P (sZ 0x6e6f69746172657449636e797341706f7453) 100 SL.s4428170145600203450x18,eT P (sZ 0x6e6f69746172657449706f7453) 101 SL.s5991306692159431302x13,eT P (sZ 0x726f7272457861746e7953) 102 SL.s16067994140765818257x11,eT P (sZ 0x726f7272456d6574737953) 103 SL.s2327743974964600596x11,eT P (sZ 0x726f72724565707954) 104 SL.s2804747833354056582x9,eT P (sZ 0x726f72724565756c6156) 105 SL.s6070975301684473832x10,eT P (sZ 0x676e696e726157) 106 SL.s14270485950484850486x7,eT P (sZ 0x726f727245746e696f50676e6974616f6c46) 107 SL.s12041534306414923332x18,eT P (sZ 0x726f727245776f6c667265764f) 108 SL.s2531307568338490285x13,eT P (sZ 0x726f7272456e6f6973697669446f72655a) 109 SL.s631175304937289666x17,eT P (sZ 0x676e696e7261577365747942) 110 SL.s5144983644357021410x12,eT P (sZ 0x676e696e7261576e6f697461636572706544) 111 SL.s18039099521571816885x18,eT P (sZ 0x676e696e726157676e69646f636e45) 112 SL.s6011586214260557989x15,eT P (sZ 0x676e696e726157657275747546) 113 SL.s5430567037509283100x13,eT P (sZ 0x676e696e72615774726f706d49) 114 SL.s8117915138073963741x13,eT P (sZ 0x676e696e7261576e6f697461636572706544676e69646e6550) 115 SL.s3423317712779056401x25,eT P (sZ 0x676e696e726157656372756f736552) 116 SL.s2007317383269046180x15,eT P (sZ 0x676e696e726157656d69746e7552) 117 SL.s17481586968713580700x14,eT P (sZ 0x676e696e7261577861746e7953) 118 SL.s2450899226349176912x13,eT P (sZ 0x676e696e72615765646f63696e55) 119 SL.s16626165730633575011x14,eT P (sZ 0x676e696e72615772657355) 120 SL.s14288496050688921416x11,eT P (sZ 0x726f7272454f49676e696b636f6c42) 121 SL.s5735081916595925998x15,eT P (sZ 0x726f727245737365636f7250646c696843) 122 SL.s3865607918536308442x17,eT P (sZ 0x726f7272456e6f697463656e6e6f43) 123 SL.s13337502604062700212x15,eT P (sZ 0x726f727245737473697845656c6946) 124 SL.s13114017843053701147x15,eT P (sZ 0x726f727245646e756f46746f4e656c6946) 125 SL.s17467278006356818441x17,eT P (sZ 0x726f7272456465747075727265746e49) 126 SL.s17722149559621369488x16,eT P (sZ 0x726f72724579726f746365726944417349) 127 SL.s7855274175708717672x17,eT P (sZ 0x726f72724579726f74636572694441746f4e) 128 SL.s13351283678309829046x18,eT P (sZ 0x726f7272456e6f697373696d726550) 129 SL.s6668348653404991179x15,eT P (sZ 0x726f72724570756b6f6f4c737365636f7250) 130 SL.s12913350958174193794x18,eT P (sZ 0x726f72724574756f656d6954) 131 SL.s16115879512475548326x12,eT P (sZ 0x726f7272456e6f697461746e65646e49) 132 SL.s15920661018069861047x16,eT P (sZ 0x726f7272457475706e496574656c706d6f636e495f) 133 SL.s10779130036587390575x21,eT P (sZ 0x726f7272457865646e49) 134 SL.s7801419657504700863x10,eT P (sZ 0x726f72724579654b) 135 SL.s1688129525768580628x8,eT P (sZ 0x726f727245646e756f46746f4e656c75646f4d) 136 SL.s1031832959479892071x19,eT P (sZ 0x726f7272456465746e656d656c706d49746f4e) 137 SL.s8991790508128307865x19,eT P (sZ 0x726f7272456e6f6974617a696c616e69466e6f68747950) 138 SL.s14539662485746970245x23,eT P (sZ 0x726f7272456e6f69737275636552) 139 SL.s11643622729373238714x14,eT P (sZ 0x726f7272456c61636f4c646e756f626e55) 140 SL.s3386828779285465597x17,eT P (sZ 0x726f72724565646f63696e55) 141 SL.s13042696260734638735x12,eT P (sZ 0x726f727245657069506e656b6f7242) 142 SL.s18239426817015966623x15,eT P (sZ 0x726f727245646574726f62416e6f697463656e6e6f43) 143 SL.s1270395311379034370x22,eT P (sZ 0x726f727245646573756665526e6f697463656e6e6f43) 144 SL.s10696252587037064777x22,eT P (sZ 0x726f72724574657365526e6f697463656e6e6f43) 145 SL.s7852717498200857586x20,eT P (sZ 0x726f727245626154) 146 SL.s6377248116197321094x8,eT P (sZ 0x726f72724565646f63654465646f63696e55) 147 SL.s3834378056692298002x18,eT P (sZ 0x726f72724565646f636e4565646f63696e55) 148 SL.s17586630440231065808x18,eT P (sZ 0x726f7272456574616c736e61725465646f63696e55) 149 SL.s15234114252648025395x21,eT P (sZ 0x70756f72476e6f69747065637845) 150 SL.s8496462677383758984x14,eT P (sZ 0x726f727245746e656d6e6f7269766e45) 151 q10,eT P (sZ 0x726f7272454f49) 152 q10,eB P (sZ 0x6e65706f) 153 SL.s16789243406116112673x4,eB P (sZ 0x74697571) 154 SL.s14400166428656793546x20,eB P (sZ 0x74697865) 155 SL.s5857708277339239366x20,eB P (sZ 0x746867697279706f63) 156 "builtins.copyright#opaque",eB P (sZ 0x73746964657263) 157 "builtins.credits#opaque",eB P (sZ 0x65736e6563696c) 158 "builtins.license#opaque",eB P (sZ 0x706c6568) 159 SL.s7804999707787243718x20] 159,
oD q1 [eR P Fx 162 4,eR P uY 163 5,eR P sT 246 13,eR P wG 349 31] 4,
oE [eO P (sZ 0x736e6f697463656c6c6f635f2e646564616f6c2e74726f706d69) 185 true,eR P (sZ 0x726574726f706d496e69746c6975422e62696c74726f706d695f6e657a6f72665f2e7373616c63) 187 15,eR P (sZ 0x74726f706d692e64656863746177) 208 19,eR P (sZ 0x63657053656c75646f4d2e62696c74726f706d695f6e657a6f72665f2e7373616c63) 218 23,eI P (sZ 0x68636f70652d64656b6f6f622e73656c75646f6d2e737973) 247 4 0,eO P (sZ 0x736e6f697463656c6c6f635f2e6465646e616c2e73656c75646f6d2e737973) 248 true,eO P (sZ 0x736e6f697463656c6c6f635f2e6469616c2d726574616c2e74726f706d69) 263 true,eR P (sZ 0x7972617262696c2e64656863746177) 265 28,eS P (sZ 0x737463656a626f2d7972617262696c2e64656863746177) 0 (sZ 0x1f0d) 0,eS P (sZ 0x736e6f697463656c6c6f635f2e706565642d7972617262696c2e64656863746177) 266 (sY [4,0,0,12,4,0,0,12,4,0,0,3,4,0,0,12,8,4,100,105,99,116,2]) 0,eO P (sZ 0x71706165685f2e646564616f6c2e74726f706d69) 278 true,eR P (sZ 0x736369736142726564616f4c5f2e6c616e72657478655f62696c74726f706d695f6e657a6f72665f2e7373616c63) 283 34,eR P (sZ 0x726564616f4c656c69462e6c616e72657478655f62696c74726f706d695f6e657a6f72665f2e7373616c63) 299 39,eR P (sZ 0x726564616f4c656c69466e6f69736e657478452e6c616e72657478655f62696c74726f706d695f6e657a6f72665f2e7373616c63) 320 44,eO P (sZ 0x71706165685f2e6469616c2d726574616c2e74726f706d69) 368 true] 15,
oA P wI 1763 43 44,
tp 0,
tp 3,
oD q1 [] 0,
af q0,
aM,
gB FA 176 1 7 175 179,
ek 9 3 uY 164],
[cR q0 sU 182 0,
oD q1 [eS P nV 250 sT 249,eB P z8 251 "off-the-table:_collections.__doc__:shared#opaque",eS P sQ 253 ry 252,eB P sR 254 "off-the-table:_collections.__loader__:shared#opaque",eB P sS 255 "off-the-table:_collections.__spec__:shared#opaque",eB P ru 256 SL.s5957113450721151568x28,eT P sU 257 q13,eT P (sZ 0x74636964746c7561666564) 258 SL.s9278979716766391425x23,eB P (sZ 0x726f7461726574695f65757165645f) 259 "off-the-table:_collections._deque_iterator:shared#opaque",eB P (sZ 0x726f7461726574695f657372657665725f65757165645f) 260 "off-the-table:_collections._deque_reverse_iterator:shared#opaque",eT P (sZ 0x726574746567656c7075745f) 261 SL.s13209474081997913071x24,eT P (sZ 0x746369446465726564724f) 262 SL.s8302156878143849030x23] 12,
tp 12,
oD q1 [eS P z3 191 FB 188,eI P z4 192 971 189,eB P z8 193 "_frozen_importlib.BuiltinImporter.__doc__:str#opaque",eS P (sZ 0x4e494749524f5f) 194 FC 190,eB P (sZ 0x636570735f646e6966) 195 "_frozen_importlib.BuiltinImporter.find_spec#opaque",eB P wJ 196 "_frozen_importlib.BuiltinImporter.create_module#opaque",eB P wK 197 "_frozen_importlib.BuiltinImporter.exec_module#opaque",eB P FD 198 "_frozen_importlib.BuiltinImporter.get_code#opaque",eB P FE 199 "_frozen_importlib.BuiltinImporter.get_source#opaque",eB P wL 200 "_frozen_importlib.BuiltinImporter.is_package#opaque",eB P wM 201 "_frozen_importlib.BuiltinImporter.load_module#opaque",eR P z5 202 16,eR P rz 204 17,eR P rE 206 18] 14,
⟨.type q6,.none,.cls ⟨FF,[.type q2],[.ref 15,.type q2],14,FF,true,[],[],false,.none,false⟩,⟨[]⟩⟩,
af q0,
m9 203 15,
nc 205 15,
⟨.none,.none,.seq ⟨[.int 14 0,.str (sY [6,191,10,95,95,109,111,100,117,108,101,95,95,6,188,17,95,102,114,111,122,101,110,95,105,109,112,111,114,116,108,105,98,6,192,15,95,95,102,105,114,115,116,108,105,110,101,110,111,95,95,4,189,0,971,6,193,7,95,95,100,111,99,95,95,9,52,95,102,114,111,122,101,110,95,105,109,112,111,114,116,108,105,98,46,66,117,105,108,116,105,110,73,109,112,111,114,116,101,114,46,95,95,100,111,99,95,95,58,115,116,114,35,111,112,97,113,117,101,6,194,7,95,79,82,73,71,73,78,6,190,8,98,117,105,108,116,45,105,110,6,195,9,102,105,110,100,95,115,112,101,99,9,50,95,102,114,111,122,101,110,95,105,109,112,111,114,116,108,105,98,46,66,117,105,108,116,105,110,73,109,112,111,114,116,101,114,46,102,105,110,100,95,115,112,101,99,35,111,112,97,113,117,101,6,196,13,99,114,101,97,116,101,95,109,111,100,117,108,101,9,54,95,102,114,111,122,101,110,95,105,109,112,111,114,116,108,105,98,46,66,117,105,108,116,105,110,73,109,112,111,114,116,101,114,46,99,114,101,97,116,101,95,109,111,100,117,108,101,35,111,112,97,113,117,101,6,197,11,101,120,101,99,95,109,111,100,117,108,101,9,52,95,102,114,111,122,101,110,95,105,109,112,111,114,116,108,105,98,46,66,117,105,108,116,105,110,73,109,112,111,114,116,101,114,46,101,120,101,99,95,109,111,100,117,108,101,35,111,112,97,113,117,101,6,198,8,103,101,116,95,99,111,100,101,9,49,95,102,114,111,122,101,110,95,105,109,112,111,114,116,108,105,98,46,66,117,105,108,116,105,110,73,109,112,111,114,116,101,114,46,103,101,116,95,99,111,100,101,35,111,112,97,113,117,101,6,199,10,103,101,116,95,115,111,117,114,99,101,9,51,95,102,114,111,122,101,110,95,105,109,112,111,114,116,108,105,98,46,66,117,105,108,116,105,110,73,109,112,111,114,116,101,114,46,103,101,116,95,115,111,117,114,99,101,35,111,112,97,113,117,101,6,200,10,105,115,95,112,97,99,107,97,103,101,9,51,95,102,114,111,122,101,110,95,105,109,112,111,114,116,108,105,98,46,66,117,105,108,116,105,110,73,109,112,111,114,116,101,114,46,105,115,95,112,97,99,107,97,103,101,35,111,112,97,113,117,101,6,201,11,108,111,97,100,95,109,111,100,117,108,101,9,52,95,102,114,111,122,101,110,95,105,109,112,111,114,116,108,105,98,46,66,117,105,108,116,105,110,73,109,112,111,114,116,101,114,46,108,111,97,100,95,109,111,100,117,108,101,35,111,112,97,113,117,101,6,202,21,95,95,115,116,97,116,105,99,95,97,116,116,114,105,98,117,116,101,115,95,95,4,0,0,16,6,204,8,95,95,100,105,99,116,95,95,4,0,0,17,6,206,11,95,95,119,101,97,107,114,101,102,95,95,4,0,0,18]) 0,.bool true,.bool true,.str ry 207,.int 22 0,.str (sY [6,229,10,95,95,109,111,100,117,108,101,95,95,6,219,17,95,102,114,111,122,101,110,95,105,109,112,111,114,116,108,105,98,6,230,15,95,95,102,105,114,115,116,108,105,110,101,110,111,95,95,4,220,0,562,6,231,7,95,95,100,111,99,95,95,9,47,95,102,114,111,122,101,110,95,105,109,112,111,114,116,108,105,98,46,77,111,100,117,108,101,83,112,101,99,46,95,95,100,111,99,95,95,58,115,116,114,35,111,112,97,113,117,101,6,232,8,95,95,105,110,105,116,95,95,9,44,95,102,114,111,122,101,110,95,105,109,112,111,114,116,108,105,98,46,77,111,100,117,108,101,83,112,101,99,46,95,95,105,110,105,116,95,95,35,111,112,97,113,117,101,6,233,8,95,95,114,101,112,114,95,95,9,44,95,102,114,111,122,101,110,95,105,109,112,111,114,116,108,105,98,46,77,111,100,117,108,101,83,112,101,99,46,95,95,114,101,112,114,95,95,35,111,112,97,113,117,101,6,234,6,95,95,101,113,95,95,9,42,95,102,114,111,122,101,110,95,105,109,112,111,114,116,108,105,98,46,77,111,100,117,108,101,83,112,101,99,46,95,95,101,113,95,95,35,111,112,97,113,117,101,6,235,6,99,97,99,104,101,100,9,42,95,102,114,111,122,101,110,95,105,109,112,111,114,116,108,105,98,46,77,111,100,117,108,101,83,112,101,99,46,99,97,99,104,101,100,35,111,112,97,113,117,101,6,236,6,112,97,114,101,110,116,9,42,95,102,114,111,122,101,110,95,105,109,112,111,114,116,108,105,98,46,77,111,100,117,108,101,83,112,101,99,46,112,97,114,101,110,116,35,111,112,97,113,117,101,6,237,12,104,97,115,95,108,111,99,97,116,105,111,110,9,48,95,102,114,111,122,101,110,95,105,109,112,111,114,116,108,105,98,46,77,111,100,117,108,101,83,112,101,99,46,104,97,115,95,108,111,99,97,116,105,111,110,35,111,112,97,113,117,101,6,238,21,95,95,115,116,97,116,105,99,95,97,116,116,114,105,98,117,116,101,115,95,95,4,0,0,24,6,240,8,95,95,100,105,99,116,95,95,4,0,0,25,6,242,11,95,95,119,101,97,107,114,101,102,95,95,4,0,0,26,6,243,8,95,95,104,97,115,104,95,95,0]) 0,.bool true,.bool true,.str ry 244,.int 33 0,.str (sY [6,286,10,95,95,109,111,100,117,108,101,95,95,6,284,26,95,102,114,111,122,101,110,95,105,109,112,111,114,116,108,105,98,95,101,120,116,101,114,110,97,108,6,287,15,95,95,102,105,114,115,116,108,105,110,101,110,111,95,95,4,285,0,1001,6,288,7,95,95,100,111,99,95,95,9,59,95,102,114,111,122,101,110,95,105,109,112,111,114,116,108,105,98,95,101,120,116,101,114,110,97,108,46,95,76,111,97,100,101,114,66,97,115,105,99,115,46,95,95,100,111,99,95,95,58,115,116,114,35,111,112,97,113,117,101,6,289,10,105,115,95,112,97,99,107,97,103,101,9,58,95,102,114,111,122,101,110,95,105,109,112,111,114,116,108,105,98,95,101,120,116,101,114,110,97,108,46,95,76,111,97,100,101,114,66,97,115,105,99,115,46,105,115,95,112,97,99,107,97,103,101,35,111,112,97,113,117,101,6,290,13,99,114,101,97,116,101,95,109,111,100,117,108,101,9,61,95,102,114,111,122,101,110,95,105,109,112,111,114,116,108,105,98,95,101,120,116,101,114,110,97,108,46,95,76,111,97,100,101,114,66,97,115,105,99,115,46,99,114,101,97,116,101,95,109,111,100,117,108,101,35,111,112,97,113,117,101,6,291,11,101,120,101,99,95,109,111,100,117,108,101,9,59,95,102,114,111,122,101,110,95,105,109,112,111,114,116,108,105,98,95,101,120,116,101,114,110,97,108,46,95,76,111,97,100,101,114,66,97,115,105,99,115,46,101,120,101,99,95,109,111,100,117,108,101,35,111,112,97,113,117,101,6,292,11,108,111,97,100,95,109,111,100,117,108,101,9,59,95,102,114,111,122,101,110,95,105,109,112,111,114,116,108,105,98,95,101,120,116,101,114,110,97,108,46,95,76,111,97,100,101,114,66,97,115,105,99,115,46,108,111,97,100,95,109,111,100,117,108,101,35,111,112,97,113,117,101,6,293,21,95,95,115,116,97,116,105,99,95,97,116,116,114,105,98,117,116,101,115,95,95,4,0,0,35,6,295,8,95,95,100,105,99,116,95,95,4,0,0,36,6,297,11,95,95,119,101,97,107,114,101,102,95,95,4,0,0,37]) 0,.bool true,.bool true,.str ry 298,.int 38 0,.str (sY [6,304,10,95,95,109,111,100,117,108,101,95,95,6,300,26,95,102,114,111,122,101,110,95,105,109,112,111,114,116,108,105,98,95,101,120,116,101,114,110,97,108,6,305,15,95,95,102,105,114,115,116,108,105,110,101,110,111,95,95,4,301,0,1176,6,306,7,95,95,100,111,99,95,95,9,56,95,102,114,111,122,101,110,95,105,109,112,111,114,116,108,105,98,95,101,120,116,101,114,110,97,108,46,70,105,108,101,76,111,97,100,101,114,46,95,95,100,111,99,95,95,58,115,116,114,35,111,112,97,113,117,101,6,307,8,95,95,105,110,105,116,95,95,9,53,95,102,114,111,122,101,110,95,105,109,112,111,114,116,108,105,98,95,101,120,116,101,114,110,97,108,46,70,105,108,101,76,111,97,100,101,114,46,95,95,105,110,105,116,95,95,35,111,112,97,113,117,101,6,308,6,95,95,101,113,95,95,9,51,95,102,114,111,122,101,110,95,105,109,112,111,114,116,108,105,98,95,101,120,116,101,114,110,97,108,46,70,105,108,101,76,111,97,100,101,114,46,95,95,101,113,95,95,35,111,112,97,113,117,101,6,309,8,95,95,104,97,115,104,95,95,9,53,95,102,114,111,122,101,110,95,105,109,112,111,114,116,108,105,98,95,101,120,116,101,114,110,97,108,46,70,105,108,101,76,111,97,100,101,114,46,95,95,104,97,115,104,95,95,35,111,112,97,113,117,101,6,310,11,108,111,97,100,95,109,111,100,117,108,101,9,56,95,102,114,111,122,101,110,95,105,109,112,111,114,116,108,105,98,95,101,120,116,101,114,110,97,108,46,70,105,108,101,76,111,97,100,101,114,46,108,111,97,100,95,109,111,100,117,108,101,35,111,112,97,113,117,101,6,311,12,103,101,116,95,102,105,108,101,110,97,109,101,9,57,95,102,114,111,122,101,110,95,105,109,112,111,114,116,108,105,98,95,101,120,116,101,114,110,97,108,46,70,105,108,101,76,111,97,100,101,114,46,103,101,116,95,102,105,108,101,110,97,109,101,35,111,112,97,113,117,101,6,312,8,103,101,116,95,100,97,116,97,9,53,95,102,114,111,122,101,110,95,105,109,112,111,114,116,108,105,98,95,101,120,116,101,114,110,97,108,46,70,105,108,101,76,111,97,100,101,114,46,103,101,116,95,100,97,116,97,35,111,112,97,113,117,101,6,313,19,103,101,116,95,114,101,115,111,117,114,99,101,95,114,101,97,100,101,114,9,64,95,102,114,111,122,101,110,95,105,109,112,111,114,116,108,105,98,95,101,120,116,101,114,110,97,108,46,70,105,108,101,76,111,97,100,101,114,46,103,101,116,95,114,101,115,111,117,114,99,101,95,114,101,97,100,101,114,35,111,112,97,113,117,101,6,314,21,95,95,115,116,97,116,105,99,95,97,116,116,114,105,98,117,116,101,115,95,95,4,0,0,40,6,316,8,95,95,100,105,99,116,95,95,4,0,0,41,6,318,11,95,95,119,101,97,107,114,101,102,95,95,4,0,0,42]) 0,.bool true,.bool true,.str ry 319,.int 43 0,.str (sY [6,325,10,95,95,109,111,100,117,108,101,95,95,6,321,26,95,102,114,111,122,101,110,95,105,109,112,111,114,116,108,105,98,95,101,120,116,101,114,110,97,108,6,326,15,95,95,102,105,114,115,116,108,105,110,101,110,111,95,95,4,322,0,1296,6,327,7,95,95,100,111,99,95,95,9,65,95,102,114,111,122,101,110,95,105,109,112,111,114,116,108,105,98,95,101,120,116,101,114,110,97,108,46,69,120,116,101,110,115,105,111,110,70,105,108,101,76,111,97,100,101,114,46,95,95,100,111,99,95,95,58,115,116,114,35,111,112,97,113,117,101,6,328,8,95,95,105,110,105,116,95,95,9,62,95,102,114,111,122,101,110,95,105,109,112,111,114,116,108,105,98,95,101,120,116,101,114,110,97,108,46,69,120,116,101,110,115,105,111,110,70,105,108,101,76,111,97,100,101,114,46,95,95,105,110,105,116,95,95,35,111,112,97,113,117,101,6,329,6,95,95,101,113,95,95,9,60,95,102,114,111,122,101,110,95,105,109,112,111,114,116,108,105,98,95,101,120,116,101,114,110,97,108,46,69,120,116,101,110,115,105,111,110,70,105,108,101,76,111,97,100,101,114,46,95,95,101,113,95,95,35,111,112,97,113,117,101,6,330,8,95,95,104,97,115,104,95,95,9,62,95,102,114,111,122,101,110,95,105,109,112,111,114,116,108,105,98,95,101,120,116,101,114,110,97,108,46,69,120,116,101,110,115,105,111,110,70,105,108,101,76,111,97,100,101,114,46,95,95,104,97,115,104,95,95,35,111,112,97,113,117,101,6,331,13,99,114,101,97,116,101,95,109,111,100,117,108,101,9,67,95,102,114,111,122,101,110,95,105,109,112,111,114,116,108,105,98,95,101,120,116,101,114,110,97,108,46,69,120,116,101,110,115,105,111,110,70,105,108,101,76,111,97,100,101,114,46,99,114,101,97,116,101,95,109,111,100,117,108,101,35,111,112,97,113,117,101,6,332,11,101,120,101,99,95,109,111,100,117,108,101,9,65,95,102,114,111,122,101,110,95,105,109,112,111,114,116,108,105,98,95,101,120,116,101,114,110,97,108,46,69,120,116,101,110,115,105,111,110,70,105,108,101,76,111,97,100,101,114,46,101,120,101,99,95,109,111,100,117,108,101,35,111,112,97,113,117,101,6,333,10,105,115,95,112,97,99,107,97,103,101,9,64,95,102,114,111,122,101,110,95,105,109,112,111,114,116,108,105,98,95,101,120,116,101,114,110,97,108,46,69,120,116,101,110,115,105,111,110,70,105,108,101,76,111,97,100,101,114,46,105,115,95,112,97,99,107,97,103,101,35,111,112,97,113,117,101,6,334,8,103,101,116,95,99,111,100,101,9,62,95,102,114,111,122,101,110,95,105,109,112,111,114,116,108,105,98,95,101,120,116,101,114,110,97,108,46,69,120,116,101,110,115,105,111,110,70,105,108,101,76,111,97,100,101,114,46,103,101,116,95,99,111,100,101,35,111,112,97,113,117,101,6,335,10,103,101,116,95,115,111,117,114,99,101,9,64,95,102,114,111,122,101,110,95,105,109,112,111,114,116,108,105,98,95,101,120,116,101,114,110,97,108,46,69,120,116,101,110,115,105,111,110,70,105,108,101,76,111,97,100,101,114,46,103,101,116,95,115,111,117,114,99,101,35,111,112,97,113,117,101,6,336,12,103,101,116,95,102,105,108,101,110,97,109,101,9,66,95,102,114,111,122,101,110,95,105,109,112,111,114,116,108,105,98,95,101,120,116,101,114,110,97,108,46,69,120,116,101,110,115,105,111,110,70,105,108,101,76,111,97,100,101,114,46,103,101,116,95,102,105,108,101,110,97,109,101,35,111,112,97,113,117,101,6,337,21,95,95,115,116,97,116,105,99,95,97,116,116,114,105,98,117,116,101,115,95,95,4,0,0,45]) 0,.bool true,.bool true,.str ry 338]⟩ 4,⟨[]⟩⟩,
af q5,
oD q1 [eS P rF 210 sT 209,eR P wN 211 15,eS P wO 212 FC 186,eN P wP 213,eN P wQ 214,eR P wR 215 20,eO P wS 216 false,eN P wT 217,eO P FG 245 false] 9],
[oD q1 [eS P z3 229 FB 219,eI P z4 230 562 220,eB P z8 231 "_frozen_importlib.ModuleSpec.__doc__:str#opaque",eB P z9 232 "_frozen_importlib.ModuleSpec.__init__#opaque",eB P gp 233 "_frozen_importlib.ModuleSpec.__repr__#opaque",eB P gA 234 "_frozen_importlib.ModuleSpec.__eq__#opaque",eB P (sZ 0x646568636163) 235 "_frozen_importlib.ModuleSpec.cached#opaque",eB P (sZ 0x746e65726170) 236 "_frozen_importlib.ModuleSpec.parent#opaque",eB P (sZ 0x6e6f697461636f6c5f736168) 237 "_frozen_importlib.ModuleSpec.has_location#opaque",eR P z5 238 24,eR P rz 240 25,eR P rE 242 26,eN P px 243] 13,
⟨.type q6,.none,.cls ⟨FH,[.type q2],[.ref 23,.type q2],22,FH,true,[],[],false,.none,false⟩,⟨[]⟩⟩,
⟨.type q0,.none,.seq ⟨[.str wT 221,.str wS 222,.str wR 223,.str wN 224,.str wP 225,.str rF 226,.str wO 227,.str wQ 228]⟩ 0,⟨[]⟩⟩,
m9 239 23,
nc 241 23,
yG 23 21,
⟨.none,.none,.seq ⟨[.int 12 0,.str (sY [6,250,8,95,95,110,97,109,101,95,95,6,249,12,95,99,111,108,108,101,99,116,105,111,110,115,6,251,7,95,95,100,111,99,95,95,9,31,95,99,111,108,108,101,99,116,105,111,110,115,46,95,95,100,111,99,95,95,58,115,116,114,35,111,112,97,113,117,101,6,253,11,95,95,112,97,99,107,97,103,101,95,95,6,252,0,6,254,10,95,95,108,111,97,100,101,114,95,95,4,0,0,15,6,255,8,95,95,115,112,101,99,95,95,4,0,0,27,6,256,15,95,99,111,117,110,116,95,101,108,101,109,101,110,116,115,9,28,95,99,111,108,108,101,99,116,105,111,110,115,46,95,99,111,117,110,116,95,101,108,101,109,101,110,116,115,6,257,5,100,101,113,117,101,8,17,99,111,108,108,101,99,116,105,111,110,115,46,100,101,113,117,101,6,258,11,100,101,102,97,117,108,116,100,105,99,116,8,23,99,111,108,108,101,99,116,105,111,110,115,46,100,101,102,97,117,108,116,100,105,99,116,6,259,15,95,100,101,113,117,101,95,105,116,101,114,97,116,111,114,8,27,99,111,108,108,101,99,116,105,111,110,115,46,95,100,101,113,117,101,95,105,116,101,114,97,116,111,114,6,260,23,95,100,101,113,117,101,95,114,101,118,101,114,115,101,95,105,116,101,114,97,116,111,114,8,35,99,111,108,108,101,99,116,105,111,110,115,46,95,100,101,113,117,101,95,114,101,118,101,114,115,101,95,105,116,101,114,97,116,111,114,6,261,12,95,116,117,112,108,101,103,101,116,116,101,114,8,24,99,111,108,108,101,99,116,105,111,110,115,46,95,116,117,112,108,101,103,101,116,116,101,114,6,262,11,79,114,100,101,114,101,100,68,105,99,116,8,23,99,111,108,108,101,99,116,105,111,110,115,46,79,114,100,101,114,101,100,68,105,99,116]) 0,.bool true,.bool false,.str sT 264,.int 30 0,.str (sY [6,352,8,95,95,110,97,109,101,95,95,6,351,6,95,104,101,97,112,113,6,353,7,95,95,100,111,99,95,95,9,25,95,104,101,97,112,113,46,95,95,100,111,99,95,95,58,115,116,114,35,111,112,97,113,117,101,6,355,11,95,95,112,97,99,107,97,103,101,95,95,6,354,0,6,356,10,95,95,108,111,97,100,101,114,95,95,4,0,0,46,6,357,8,95,95,115,112,101,99,95,95,4,0,0,49,6,358,8,104,101,97,112,112,117,115,104,9,15,95,104,101,97,112,113,46,104,101,97,112,112,117,115,104,6,359,11,104,101,97,112,112,117,115,104,112,111,112,9,18,95,104,101,97,112,113,46,104,101,97,112,112,117,115,104,112,111,112,6,360,7,104,101,97,112,112,111,112,9,14,95,104,101,97,112,113,46,104,101,97,112,112,111,112,6,361,11,104,101,97,112,114,101,112,108,97,99,101,9,18,95,104,101,97,112,113,46,104,101,97,112,114,101,112,108,97,99,101,6,362,7,104,101,97,112,105,102,121,9,14,95,104,101,97,112,113,46,104,101,97,112,105,102,121,6,363,12,95,104,101,97,112,112,111,112,95,109,97,120,9,19,95,104,101,97,112,113,46,95,104,101,97,112,112,111,112,95,109,97,120,6,364,12,95,104,101,97,112,105,102,121,95,109,97,120,9,19,95,104,101,97,112,113,46,95,104,101,97,112,105,102,121,95,109,97,120,6,365,16,95,104,101,97,112,114,101,112,108,97,99,101,95,109,97,120,9,23,95,104,101,97,112,113,46,95,104,101,97,112,114,101,112,108,97,99,101,95,109,97,120,6,366,8,95,95,102,105,108,101,95,95,6,279,125,47,110,105,120,47,115,116,111,114,101,47,119,106,49,102,53,54,113,107,121,52,112,109,106,99,55,108,48,114,54,98,54,108,55,119,104,110,110,119,55,104,112,54,45,112,121,116,104,111,110,51,45,51,46,49,51,46,49,53,47,108,105,98,47,112,121,116,104,111,110,51,46,49,51,47,108,105,98,45,100,121,110,108,111,97,100,47,95,104,101,97,112,113,46,99,112,121,116,104,111,110,45,51,49,51,45,120,56,54,95,54,52,45,108,105,110,117,120,45,103,110,117,46,115,111,6,367,9,95,95,97,98,111,117,116,95,95,9,27,95,104,101,97,112,113,46,95,95,97,98,111,117,116,95,95,58,115,116,114,35,111,112,97,113,117,101]) 0,.bool true,.bool false,.str wG 369]⟩ 1,⟨[]⟩⟩,
bH q0 sV 274 sW 0,
oD q1 [eS P nV 352 wG 351,eB P z8 353 "off-the-table:_heapq.__doc__:shared#opaque",eS P sQ 355 ry 354,eB P sR 356 "off-the-table:_heapq.__loader__:shared#opaque",eB P sS 357 "off-the-table:_heapq.__spec__:shared#opaque",eB P (sZ 0x6873757070616568) 358 SL.s1401719397831815689x15,eB P (sZ 0x706f706873757070616568) 359 SL.s3253261563445288831x18,eB P (sZ 0x706f7070616568) 360 SL.s348165108972342858x14,eB P sW 361 fH,eB P sV 362 q14,eB P (sZ 0x78616d5f706f70706165685f) 363 SL.s10974238022732182726x19,eB P (sZ 0x78616d5f796669706165685f) 364 SL.s18185691447467314571x19,eB P (sZ 0x78616d5f6563616c706572706165685f) 365 SL.s11355973235755591776x23,eS P Fz 366 wU 279,eB P (sZ 0x5f5f74756f62615f5f) 367 "off-the-table:_heapq.__about__:shared#opaque"] 15,
tp 30,
oD q1 [eS P rF 281 wG 280,eS P sX 282 wU 279] 2],
[oD q1 [eS P z3 286 wV 284,eI P z4 287 1001 285,eB P z8 288 "_frozen_importlib_external._LoaderBasics.__doc__:str#opaque",eB P wL 289 "_frozen_importlib_external._LoaderBasics.is_package#opaque",eB P wJ 290 "_frozen_importlib_external._LoaderBasics.create_module#opaque",eB P wK 291 "_frozen_importlib_external._LoaderBasics.exec_module#opaque",eB P wM 292 "_frozen_importlib_external._LoaderBasics.load_module#opaque",eR P z5 293 35,eR P rz 295 36,eR P rE 297 37] 10,
⟨.type q6,.none,.cls ⟨FI,[.type q2],[.ref 34,.type q2],33,FI,true,[],[.ref 44],false,.none,false⟩,⟨[]⟩⟩,
af q0,
m9 294 34,
nc 296 34,
oD q1 [eS P z3 304 wV 300,eI P z4 305 1176 301,eB P z8 306 "_frozen_importlib_external.FileLoader.__doc__:str#opaque",eB P z9 307 "_frozen_importlib_external.FileLoader.__init__#opaque",eB P gA 308 "_frozen_importlib_external.FileLoader.__eq__#opaque",eB P px 309 "_frozen_importlib_external.FileLoader.__hash__#opaque",eB P wM 310 "_frozen_importlib_external.FileLoader.load_module#opaque",eB P FJ 311 "_frozen_importlib_external.FileLoader.get_filename#opaque",eB P (sZ 0x617461645f746567) 312 "_frozen_importlib_external.FileLoader.get_data#opaque",eB P (sZ 0x7265646165725f656372756f7365725f746567) 313 "_frozen_importlib_external.FileLoader.get_resource_reader#opaque",eR P z5 314 40,eR P rz 316 41,eR P rE 318 42] 13,
⟨.type q6,.none,.cls ⟨FK,[.type q2],[.ref 39,.type q2],38,FK,true,[],[.ref 44],false,.none,false⟩,⟨[]⟩⟩,
bH q0 rF 302 sX 0,
m9 315 39,
nc 317 39,
oD q1 [eS P z3 325 wV 321,eI P z4 326 1296 322,eB P z8 327 "_frozen_importlib_external.ExtensionFileLoader.__doc__:str#opaque",eB P z9 328 "_frozen_importlib_external.ExtensionFileLoader.__init__#opaque",eB P gA 329 "_frozen_importlib_external.ExtensionFileLoader.__eq__#opaque",eB P px 330 "_frozen_importlib_external.ExtensionFileLoader.__hash__#opaque",eB P wJ 331 "_frozen_importlib_external.ExtensionFileLoader.create_module#opaque",eB P wK 332 "_frozen_importlib_external.ExtensionFileLoader.exec_module#opaque",eB P wL 333 "_frozen_importlib_external.ExtensionFileLoader.is_package#opaque",eB P FD 334 "_frozen_importlib_external.ExtensionFileLoader.get_code#opaque",eB P FE 335 "_frozen_importlib_external.ExtensionFileLoader.get_source#opaque",eB P FJ 336 "_frozen_importlib_external.ExtensionFileLoader.get_filename#opaque",eR P z5 337 45] 13],
[⟨.type q6,.none,.cls ⟨FO,[.ref 39,.ref 34],[.ref 44,.ref 39,.ref 34,.type q2],43,FO,true,[],[],false,.none,false⟩,⟨[]⟩⟩,
bH q0 rF 323 sX 0,
yG 44 32,
af q5,
oD q1 [eS P rF 340 wG 339,eR P wN 341 46,eS P wO 342 wU 279,eN P wP 343,eN P wQ 344,eR P wR 345 47,eO P wS 346 true,eN P wT 347,eO P FG 348 false] 9,
yG 23 48,
af q0,
oB 96,
gB FA 380 1 50 379 383,
ek 52 3 uY 164,
af q0],
[aM,
cR q0 (sZ 0x6b) 388 0,
af q0,
gg 2 ur,
aO ur 385 ur 3 1 0 3 54 389 390,
gC 2 ur uY 164 59,
⟨.type q0,.none,.seq ⟨[.type q6]⟩ 0,⟨[]⟩⟩,
kz,
oD q1 [eS P z3 401 s0 392,eS P fV 403 pj 402,eI P z4 405 7 404,eR P mJ 413 74,eR P z5 414 75] 5,
af q0,
⟨.none,.none,.fields ⟨[.int 9 0,.int 4 0,.ref 73]⟩,⟨[]⟩⟩],
[gB pj 396 7 64 379 399,
ek 66 63 s0 392,
af q0,
aM,
bH q0 f9 409 FP 0,
af q0,
aU 4 0 mJ wW,
aO mJ 406 wW 9 2 0 3 68 411 412,
bn 4 0 mJ wW s0 392 73,
af q0,
oD q1 [eS P z3 401 s0 392,eI P z4 405 7 404,eR P mJ 413 74,eR P z5 414 75,eN P z8 415] 2],
[⟨.type q6,.none,.cls ⟨pj,[.type q6],[.ref 77,.type q6,.type q2],76,pj,true,[],[.ref 110],false,.none,false⟩,⟨[.some (.ref 61),.none,.some (.str pj 394),.some (.str pj 402),.some (.builtin gT),.some (.bool true)]⟩⟩,
eV 77,
eQ q4 77,
kC 77,
kz,
oD q1 [eS P z3 427 z0 418,eS P fV 429 pk 428,eI P z4 431 12 430,eR P pG 440 93,eR P pI 448 100,eR P mJ 456 107,eR P z5 457 108] 7,
af q0,
qh 14 92 20 25,
gB pk 422 12 83 379 425,
ek 85 82 z0 418,
af q0],
[aM,
gD f9 435 (sZ 0x65636e6174736e69) ie,
af q0,
aU 6 0 pG wX,
aO pG 432 wX 14 2 0 3 87 438 439,
bn 6 0 pG wX z0 418 92,
af q0,
aM,
bH q0 f9 444 ie 0,
af q0,
aU 6 1 pI wY],
[aO pI 441 wY 20 2 0 3 94 446 447,
bn 6 1 pI wY z0 418 99,
af q0,
aM,
bH q0 f9 452 FP 0,
af q0,
aU 6 2 mJ wZ,
aO mJ 449 wZ 25 2 0 3 101 454 455,
bn 6 2 mJ wZ z0 418 106,
af q0,
oD q1 [eS P z3 427 z0 418,eI P z4 431 12 430,eR P pG 440 93,eR P pI 448 100,eR P mJ 456 107,eR P z5 457 108,eN P z8 458] 2],
[⟨.type q6,.none,.cls ⟨pk,[.ref 77],[.ref 110,.ref 77,.type q6,.type q2],109,pk,true,[],[],false,.none,false⟩,⟨[.some (.ref 80),.none,.some (.str pk 420),.some (.str pk 428),.some (.builtin gT),.some (.bool true)]⟩⟩,
eV 110,
eQ q4 110,
af q0,
aM,
cR q0 ie 464 0,
af q0,
gg 7 ut,
aO ut 461 ut 27 1 0 3 113 465 466,
gC 7 ut z0 418 118,
af q0]]
def LZ(P:Params):List (List Obj):=[[aM,
cR q0 ie 471 0,
af q0,
gg 8 uv,
aO uv 468 uv 30 1 0 3 120 472 473,
gC 8 uv z0 418 125,
af q0,
aM,
cR q0 ie 478 0,
af q0,
gg 9 uw],
[aO uw 475 uw 33 1 0 3 127 479 480,
gC 9 uw z0 418 132,
af q0,
aM,
cR q0 ie 485 0,
af q0,
gg 10 ux,
aO ux 482 ux 36 1 0 3 134 486 487,
gC 10 ux z0 418 139,
af q0,
aM],
[cR q0 ie 492 0,
af q0,
gg 11 uy,
aO uy 489 uy 39 1 0 3 141 493 494,
gC 11 uy z0 418 146,
af q0,
aM,
cR q0 ie 499 0,
af q0,
gg 12 uz,
aO uz 496 uz 41 1 0 3 148 500 501],
[gC 12 uz z0 418 153,
af q0,
eQ q7 110,
oD q1 [eS P z3 510 z0 418,eS P fV 512 pC 511,eI P z4 514 43 513,eR P er 515 162,eR P z6 522 169,eR P z2 530 176,eR P i7 538 183,eR P z5 539 184] 8,
af q0,
qh 46 168 50 56,
gB pC 505 43 158 379 508,
ek 160 157 z0 418,
af q0,
af q0,
aM],
[cR q0 z1 519 0,
af q0,
aU 13 1 z6 w0,
aO z6 516 w0 46 1 0 35 163 520 521,
bn 13 1 z6 w0 z0 418 168,
af q0,
aM,
bH q0 f9 526 ie 0,
af q0,
aU 13 2 z2 w1,
aO z2 523 w1 50 2 0 3 170 528 529],
[bn 13 2 z2 w1 z0 418 175,
af q0,
aM,
bH q0 f9 534 rH 0,
af q0,
aU 13 3 i7 w2,
aO i7 531 w2 56 2 0 3 177 536 537,
bn 13 3 i7 w2 z0 418 182,
af q0,
af q5,
oD q1 [eS P z3 510 z0 418,eI P z4 514 43 513,eR P er 515 162,eR P z6 522 169,eR P z2 530 176,eR P i7 538 188,eR P z5 539 184,eN P z8 541,eR P uG 548 191] 3],
[nf pC 187 186 503,
yH 183,
eV 187,
eQ q4 187,
cR q0 z6 544 0,
af q0,
eQ q7 110,
oD q1 [eS P z3 556 z0 418,eS P fV 558 jE 557,eI P z4 560 59 559,eR P er 561 199,eR P jD 568 206,eR P z2 576 213,eR P z5 577 214] 7,
af q0,
⟨.none,.none,.fields ⟨[.int 62 0,.int 4 0,.ref 205,.int 65 0,.int 4 0,.ref 212]⟩,⟨[]⟩⟩,
gB jE 551 59 195 379 554],
[ek 197 194 z0 418,
af q0,
af q0,
aM,
cR q0 z1 565 0,
af q0,
aU 15 1 jD w3,
aO jD 562 w3 62 1 0 3 200 566 567,
bn 15 1 jD w3 z0 418 205,
af q0,
aM],
[bH q0 f9 572 ie 0,
af q0,
aU 15 2 z2 w4,
aO z2 569 w4 65 2 0 3 207 574 575,
bn 15 2 z2 w4 z0 418 212,
af q0,
af q5,
oD q1 [eS P z3 556 z0 418,eI P z4 560 59 559,eR P er 561 199,eR P jD 568 206,eR P z2 576 213,eR P z5 577 214,eN P z8 578,eR P uG 585 220] 3,
⟨.ref 110,.none,.cls ⟨jE,[.type q2],[.ref 217,.type q2],216,jE,false,[],[.ref 276,.ref 514],true,.none,false⟩,⟨[.none,.none,.some (.str jE 549),.some (.str jE 557),.some (.builtin q3),.some (.bool false)]⟩⟩,
eV 217,
eQ q4 217],
[cR q0 jD 581 0,
af q0,
eQ q7 110,
oD q1 [eS P z3 593 z0 418,eS P fV 595 uA 594,eI P z4 597 71 596,eR P er 598 228,eR P eC 606 235,eR P z2 614 242,eR P i7 622 249,eR P z5 623 250] 8,
af q0,
qh 74 234 77 83,
gB uA 588 71 224 379 591,
ek 226 223 z0 418,
af q0,
af q0,
aM],
[bH q0 z1 602 w5 0,
af q0,
aU 17 1 eC w6,
aO eC 599 w6 74 2 0 3 229 604 605,
bn 17 1 eC w6 z0 418 234,
af q0,
aM,
bH q0 f9 610 ie 0,
af q0,
aU 17 2 z2 w7,
aO z2 607 w7 77 2 0 3 236 612 613]]
def L0(P:Params):List (List Obj):=[[bn 17 2 z2 w7 z0 418 241,
af q0,
aM,
bH q0 f9 618 rH 0,
af q0,
aU 17 3 i7 w8,
aO i7 615 w8 83 2 0 3 243 620 621,
bn 17 3 i7 w8 z0 418 248,
af q0,
af q5,
oD q1 [eS P z3 593 z0 418,eI P z4 597 71 596,eR P er 598 228,eR P eC 606 235,eR P z2 614 242,eR P i7 622 254,eR P z5 623 250,eN P z8 625,eR P uG 632 257] 3],
[nf uA 253 252 586,
yH 249,
eV 253,
eQ q4 253,
cR q0 eC 628 0,
⟨.type q0,.none,.seq ⟨[.ref 217,.ref 187,.ref 253]⟩ 0,⟨[]⟩⟩,
eQ q7 110,
oD q1 [eS P z3 640 z0 418,eS P fV 642 dE 641,eI P z4 644 86 643,eR P er 645 265,eR P z2 653 272,eR P z5 654 273] 6,
af q0,
⟨.none,.none,.fields ⟨[.int 89 0,.int 4 0,.ref 271]⟩,⟨[]⟩⟩,
gB dE 635 86 261 379 638],
[ek 263 260 z0 418,
af q0,
af q0,
aM,
bH q0 f9 649 ie 0,
af q0,
aU 19 1 z2 w9,
aO z2 646 w9 89 2 0 3 266 651 652,
bn 19 1 z2 w9 z0 418 271,
af q0,
af q5],
[oD q1 [eS P z3 640 z0 418,eI P z4 644 86 643,eR P er 645 265,eR P z2 653 272,eR P z5 654 273,eN P z8 655,eR P uG 664 279] 3,
⟨.ref 110,.none,.cls ⟨dE,[.ref 217,.ref 187,.ref 253],[.ref 276,.ref 217,.ref 187,.ref 253,.type q2],275,dE,false,[],[.ref 392,.ref 464,.ref 641],true,.none,false⟩,⟨[.some (.ref 258),.none,.some (.str dE 633),.some (.str dE 641),.some (.builtin q3),.some (.bool false)]⟩⟩,
eV 276,
eQ q4 276,
gD eC 658 z6 jD,
kC 276,
eQ q7 110,
oD q1 [eS P z3 672 z0 418,eS P fV 674 eP 673,eI P z4 676 97 675,eR P er 677 287,eR P lZ 686 294,eR P l0 694 301,eR P l1 702 308,eR P l3 711 315,eR P gA 719 322,eR P gQ 739 331,eR P l4 748 339,eR P xa 749 339,eR P uH 757 346,eR P l5 766 353,eR P xb 767 353,eR P l6 776 360,eR P uI 785 367,eR P uJ 793 374,eR P xc 794 374,eR P uK 801 381,eR P z2 809 388,eR P z5 810 389] 22,
af q0,
⟨.none,.none,.fields ⟨[.int 100 0,.int 4 0,.ref 293,.int 110 0,.int 4 0,.ref 300,.int 115 0,.int 4 0,.ref 307,.int 120 0,.int 4 0,.ref 314,.int 130 0,.int 4 0,.ref 321,.int 136 0,.int 4 0,.ref 328,.int 139 0,.int 4 0,.ref 338,.int 145 0,.int 4 0,.ref 345,.int 148 0,.int 4 0,.ref 352,.int 155 0,.int 4 0,.ref 359,.int 162 0,.int 4 0,.ref 366,.int 169 0,.int 4 0,.ref 373,.int 177 0,.int 4 0,.ref 380,.int 180 0,.int 4 0,.ref 387]⟩,⟨[]⟩⟩,
gB eP 667 97 283 379 670],
[ek 285 282 z0 418,
af q0,
af q0,
aM,
gD z1 681 et iS,
af q0,
aU 21 1 lZ xd,
aO lZ 678 xd 100 2 0 3 288 684 685,
bn 21 1 lZ xd z0 418 293,
af q0,
aM],
[bH q0 z1 690 et 0,
af q0,
aU 21 2 l0 xf,
aO l0 687 xf 110 2 0 3 295 692 693,
bn 21 2 l0 xf z0 418 300,
af q0,
aM,
bH q0 z1 698 et 0,
af q0,
aU 21 3 l1 xg,
aO l1 695 xg 115 2 0 3 302 700 701],
[bn 21 3 l1 xg z0 418 307,
af q0,
aM,
gD z1 706 et iS,
af q0,
aU 21 4 l3 xh,
aO l3 703 xh 120 2 0 3 309 709 710,
bn 21 4 l3 xh z0 418 314,
af q0,
aM,
bH q0 z1 715 et 0],
[af q0,
aU 21 5 gA xi,
aO gA 712 xi 130 2 0 3 316 717 718,
bn 21 5 gA xi z0 418 321,
af q0,
aM,
bH q0 f9 723 ta 0,
af q0,
aU 21 6 gQ td,
aO gQ 720 td 135 2 0 3 323 725 726,
tq 21 6 gQ td z0 418 332 328],
[oD q1 [eS P z3 728 z0 418,eS P nV 731 gQ 730,eS P fV 734 td 733,eN P z8 736,eR P uq 738 332] 5,
qi 330 329,
oD q1 [] 0,
af q0,
aM,
bH q0 z1 743 et 0,
cR q0 z1 745 0,
aU 21 7 l4 xj,
aO l4 740 xj 139 2 0 3 333 746 747,
bn 21 7 l4 xj z0 418 338,
af q0],
[aM,
bH q0 z1 753 et 0,
af q0,
aU 21 9 uH xk,
aO uH 750 xk 145 2 0 3 340 755 756,
bn 21 9 uH xk z0 418 345,
af q0,
aM,
gD z1 761 et uE,
af q0,
aU 21 10 l5 xl],
[aO l5 758 xl 148 2 0 3 347 764 765,
bn 21 10 l5 xl z0 418 352,
af q0,
aM,
bH q0 z1 771 et 0,
cR q0 et 773 0,
aU 21 12 l6 xm,
aO l6 768 xm 155 2 0 3 354 774 775,
bn 21 12 l6 xm z0 418 359,
af q0,
aM]]
def L1(P:Params):List (List Obj):=[[bH q0 z1 780 et 0,
cR q0 z1 782 0,
aU 21 13 uI xn,
aO uI 777 xn 162 2 0 3 361 783 784,
bn 21 13 uI xn z0 418 366,
af q0,
aM,
bH q0 z1 789 et 0,
af q0,
aU 21 14 uJ xo,
aO uJ 786 xo 169 2 0 3 368 791 792],
[bn 21 14 uJ xo z0 418 373,
af q0,
aM,
cR q0 z1 798 0,
af q0,
aU 21 16 uK xp,
aO uK 795 xp 177 1 0 3 375 799 800,
bn 21 16 uK xp z0 418 380,
af q0,
aM,
bH q0 f9 805 ie 0],
[af q0,
aU 21 17 z2 xq,
aO z2 802 xq 180 2 0 3 382 807 808,
bn 21 17 z2 xq z0 418 387,
af q0,
af q5,
oD q1 [eS P z3 672 z0 418,eI P z4 676 97 675,eR P er 677 287,eR P lZ 686 294,eR P l0 694 301,eR P l1 702 308,eR P l3 711 315,eR P gA 719 322,eR P gQ 739 331,eR P l4 748 339,eR P xa 749 339,eR P uH 757 346,eR P l5 766 353,eR P xb 767 353,eR P l6 776 360,eR P uI 785 367,eR P uJ 793 374,eR P xc 794 374,eR P uK 801 381,eR P z2 809 388,eR P z5 810 389,eN P z8 811,eN P px 812,eR P uG 821 395] 4,
⟨.ref 110,.none,.cls ⟨eP,[.ref 276],[.ref 392,.ref 276,.ref 217,.ref 187,.ref 253,.type q2],391,eP,false,[],[.ref 561,.ref 606],true,.none,false⟩,⟨[.some (.ref 280),.none,.some (.str eP 665),.some (.str eP 673),.some (.builtin q3),.some (.bool false)]⟩⟩,
eV 392,
eQ q4 392,
gD eC 815 z6 jD],
[kC 276,
eQ q7 110,
oD q1 [eS P z3 829 z0 418,eS P fV 831 kP 830,eI P z4 833 186 832,eR P er 834 403,eR P rI 842 410,eR P uL 851 418,eR P eC 859 425,eR P uM 866 432,eR P py 873 439,eR P uN 880 446,eR P gA 888 453,eN P xr 889,eR P z2 897 460,eR P z5 898 461] 14,
af q0,
⟨.none,.none,.fields ⟨[.int 189 0,.int 4 0,.ref 409,.int 192 0,.int 4 0,.ref 417,.int 198 0,.int 4 0,.ref 424,.int 206 0,.int 4 0,.ref 431,.int 209 0,.int 4 0,.ref 438,.int 212 0,.int 4 0,.ref 445,.int 215 0,.int 4 0,.ref 452,.int 221 0,.int 4 0,.ref 459]⟩,⟨[]⟩⟩,
gB kP 824 186 399 379 827,
ek 401 398 z0 418,
af q0,
af q0,
aM,
bH q0 z1 838 nW 0],
[af q0,
aU 23 1 rI xt,
aO rI 835 xt 189 2 0 3 404 840 841,
bn 23 1 rI xt z0 418 409,
l7,
af q0,
aM,
gD z1 846 nW (sZ 0x746c7561666564),
af q0,
aU 23 2 uL xu,
aO uL 843 xu 192 3 0 3 412 849 850],
[ts 23 2 uL xu 411 z0 418,
af q0,
aM,
bH q0 z1 855 nW 0,
af q0,
aU 23 3 eC xv,
aO eC 852 xv 198 2 0 3 419 857 858,
bn 23 3 eC xv z0 418 424,
af q0,
aM,
cR q0 z1 863 0],
[af q0,
aU 23 4 uM xw,
aO uM 860 xw 206 1 0 3 426 864 865,
bn 23 4 uM xw z0 418 431,
af q0,
aM,
cR q0 z1 870 0,
af q0,
aU 23 5 py xx,
aO py 867 xx 209 1 0 3 433 871 872,
bn 23 5 py xx z0 418 438],
[af q0,
aM,
cR q0 z1 877 0,
af q0,
aU 23 6 uN xy,
aO uN 874 xy 212 1 0 3 440 878 879,
bn 23 6 uN xy z0 418 445,
af q0,
aM,
bH q0 z1 884 et 0,
af q0],
[aU 23 7 gA xz,
aO gA 881 xz 215 2 0 3 447 886 887,
bn 23 7 gA xz z0 418 452,
af q0,
aM,
bH q0 f9 893 ie 0,
af q0,
aU 23 9 z2 xA,
aO z2 890 xA 221 2 0 3 454 895 896,
bn 23 9 z2 xA z0 418 459,
af q0],
[af q5,
oD q1 [eS P z3 829 z0 418,eI P z4 833 186 832,eR P er 834 403,eR P rI 842 410,eR P uL 851 418,eR P eC 859 425,eR P uM 866 432,eR P py 873 439,eR P uN 880 446,eR P gA 888 453,eN P xr 889,eR P z2 897 460,eR P z5 898 461,eN P z8 899,eN P px 900,eR P uG 909 467] 4,
⟨.ref 110,.none,.cls ⟨kP,[.ref 276],[.ref 464,.ref 276,.ref 217,.ref 187,.ref 253,.type q2],463,kP,false,[],[],true,.none,false⟩,⟨[.some (.ref 396),.none,.some (.str kP 822),.some (.str kP 830),.some (.builtin q3),.some (.bool false)]⟩⟩,
eV 464,
eQ q4 464,
gD rI 903 z6 jD,
kC 217,
eQ q7 110,
oD q1 [eS P z3 917 z0 418,eS P fV 919 gz 918,eI P z4 921 227 920,eR P er 923 475,eR P z9 931 482,eR P jD 938 489,eR P gp 946 496,eR P z2 954 503,eR P i7 962 510,eR P z5 964 511] 10,
af q0,
⟨.none,.none,.fields ⟨[.int 230 0,.int 4 0,.ref 481,.int 233 0,.int 4 0,.ref 488,.int 236 0,.int 4 0,.ref 495,.int 240 0,.int 4 0,.ref 502,.int 246 0,.int 4 0,.ref 509]⟩,⟨[]⟩⟩],
[gB gz 912 227 471 379 915,
ek 473 470 z0 418,
cR q0 kQ 922 0,
af q0,
aM,
bH q0 z1 927 FQ 0,
af q0,
aU 25 1 z9 xB,
aO z9 924 xB 230 2 0 3 476 929 930,
bn 25 1 z9 xB z0 418 481,
af q0]]
def L2(P:Params):List (List Obj):=[[aM,
cR q0 z1 935 0,
af q0,
aU 25 2 jD xC,
aO jD 932 xC 233 1 0 3 483 936 937,
bn 25 2 jD xC z0 418 488,
af q0,
aM,
bH q0 z1 942 rF 0,
af q0,
aU 25 3 gp xD],
[aO gp 939 xD 236 1 0 3 490 944 945,
bn 25 3 gp xD z0 418 495,
af q0,
aM,
bH q0 f9 950 ie 0,
af q0,
aU 25 4 z2 xE,
aO z2 947 xE 240 2 0 3 497 952 953,
bn 25 4 z2 xE z0 418 502,
af q0,
aM],
[bH q0 f9 958 rH 0,
af q0,
aU 25 5 i7 xF,
aO i7 955 xF 246 2 0 3 504 960 961,
bn 25 5 i7 xF z0 418 509,
cR q0 kQ 963 0,
cR q5 kQ 922 1,
oD q1 [eS P z3 917 z0 418,eI P z4 921 227 920,eR P er 923 475,eR P z9 931 482,eR P jD 938 489,eR P gp 946 496,eR P z2 954 503,eR P i7 962 515,eR P z5 964 511,eR P kQ 967 516,eN P z8 968] 3,
⟨.ref 110,.none,.cls ⟨gz,[.ref 217],[.ref 514,.ref 217,.type q2],513,gz,false,[kQ],[.ref 561,.ref 606,.ref 641],false,.none,false⟩,⟨[.some (.ref 468),.none,.some (.str gz 910),.some (.str gz 918),.some (.builtin q3),.some (.bool false)]⟩⟩,
yH 510,
kD kQ 966 514 0],
[eV 514,
eQ q4 514,
yI 392,
eQ q7 110,
oD q1 [eS P z3 978 z0 418,eS P fV 980 pn 979,eI P z4 982 248 981,eR P er 983 526,eR P gQ 1003 535,eR P eC 1011 543,eR P z6 1018 550,eR P z2 1026 557,eR P z5 1027 558] 9,
af q0,
tt 252 532 255 542 258 549 261,
gB pn 973 248 522 379 976,
ek 524 521 z0 418,
af q0,
af q0],
[aM,
bH q0 f9 987 ta 0,
af q0,
aU 26 1 gQ tg,
aO gQ 984 tg 251 2 0 3 527 989 990,
tq 26 1 gQ tg z0 418 536 532,
oD q1 [eS P z3 992 z0 418,eS P nV 995 gQ 994,eS P fV 998 tg 997,eN P z8 1000,eR P uq 1002 536] 5,
qi 534 533,
oD q1 [] 0,
af q0,
aM],
[bH q0 z1 1007 nW 0,
af q0,
aU 26 2 eC xG,
aO eC 1004 xG 255 2 0 3 537 1009 1010,
bn 26 2 eC xG z0 418 542,
af q0,
aM,
cR q0 z1 1015 0,
af q0,
aU 26 3 z6 xH,
aO z6 1012 xH 258 1 0 35 544 1016 1017],
[bn 26 3 z6 xH z0 418 549,
af q0,
aM,
bH q0 f9 1022 ie 0,
af q0,
aU 26 4 z2 xI,
aO z2 1019 xI 261 2 0 3 551 1024 1025,
bn 26 4 z2 xI z0 418 556,
af q0,
af q5,
oD q1 [eS P z3 978 z0 418,eI P z4 982 248 981,eR P er 983 526,eR P gQ 1003 535,eR P eC 1011 543,eR P z6 1018 550,eR P z2 1026 557,eR P z5 1027 558,eN P z8 1028] 2],
[⟨.ref 110,.none,.cls ⟨pn,[.ref 514,.ref 392],[.ref 561,.ref 514,.ref 392,.ref 276,.ref 217,.ref 187,.ref 253,.type q2],560,pn,false,[kQ],[],false,.none,false⟩,⟨[.some (.ref 519),.none,.some (.str pn 971),.some (.str pn 979),.some (.builtin q3),.some (.bool false)]⟩⟩,
eV 561,
eQ q4 561,
yI 392,
eQ q7 110,
oD q1 [eS P z3 1038 z0 418,eS P fV 1040 pq 1039,eI P z4 1042 266 1041,eR P er 1043 571,eR P gQ 1063 580,eR P eC 1074 588,eR P z6 1082 595,eR P z2 1090 602,eR P z5 1091 603] 9,
af q0,
tt 270 577 273 587 282 594 286,
gB pq 1033 266 567 379 1036,
ek 569 566 z0 418,
af q0],
[af q0,
aM,
bH q0 f9 1047 ta 0,
af q0,
aU 27 1 gQ th,
aO gQ 1044 th 269 2 0 3 572 1049 1050,
tq 27 1 gQ th z0 418 581 577,
oD q1 [eS P z3 1052 z0 418,eS P nV 1055 gQ 1054,eS P fV 1058 th 1057,eN P z8 1060,eR P uq 1062 581] 5,
qi 579 578,
oD q1 [] 0,
af q0],
[aM,
tv 1067 rH nW FR xJ,
af q0,
aU 27 2 eC xK,
aO eC 1064 xK 273 2 0 3 582 1072 1073,
bn 27 2 eC xK z0 418 587,
af q0,
aM,
bH q0 z1 1078 nW 0,
af q0,
aU 27 3 z6 xL],
[aO z6 1075 xL 282 1 0 35 589 1080 1081,
bn 27 3 z6 xL z0 418 594,
af q0,
aM,
bH q0 f9 1086 ie 0,
af q0,
aU 27 4 z2 xM,
aO z2 1083 xM 286 2 0 3 596 1088 1089,
bn 27 4 z2 xM z0 418 601,
af q0,
af q5]]
def L3(P:Params):List (List Obj):=[[oD q1 [eS P z3 1038 z0 418,eI P z4 1042 266 1041,eR P er 1043 571,eR P gQ 1063 580,eR P eC 1074 588,eR P z6 1082 595,eR P z2 1090 602,eR P z5 1091 603,eN P z8 1092] 2,
⟨.ref 110,.none,.cls ⟨pq,[.ref 514,.ref 392],[.ref 606,.ref 514,.ref 392,.ref 276,.ref 217,.ref 187,.ref 253,.type q2],605,pq,false,[kQ],[],false,.none,false⟩,⟨[.some (.ref 564),.none,.some (.str pq 1031),.some (.str pq 1039),.some (.builtin q3),.some (.bool false)]⟩⟩,
eV 606,
eQ q4 606,
yI 276,
eQ q7 110,
oD q1 [eS P z3 1102 z0 418,eS P fV 1104 pr 1103,eI P z4 1106 291 1105,eR P er 1107 616,eR P eC 1117 623,eR P z6 1125 630,eR P z2 1133 637,eR P z5 1134 638] 8,
af q0,
qh 294 622 301 305,
gB pr 1097 291 612 379 1100,
ek 614 611 z0 418],
[af q0,
af q0,
aM,
kE z1 1111 FR nW xJ,
af q0,
aU 28 1 eC xN,
aO eC 1108 xN 294 2 0 3 617 1115 1116,
bn 28 1 eC xN z0 418 622,
af q0,
aM,
bH q0 z1 1121 nW 0],
[af q0,
aU 28 2 z6 xO,
aO z6 1118 xO 301 1 0 35 624 1123 1124,
bn 28 2 z6 xO z0 418 629,
af q0,
aM,
bH q0 f9 1129 ie 0,
af q0,
aU 28 3 z2 xP,
aO z2 1126 xP 305 2 0 3 631 1131 1132,
bn 28 3 z2 xP z0 418 636],
[af q0,
af q5,
oD q1 [eS P z3 1102 z0 418,eI P z4 1106 291 1105,eR P er 1107 616,eR P eC 1117 623,eR P z6 1125 630,eR P z2 1133 637,eR P z5 1134 638,eN P z8 1135] 2,
⟨.ref 110,.none,.cls ⟨pr,[.ref 514,.ref 276],[.ref 641,.ref 514,.ref 276,.ref 217,.ref 187,.ref 253,.type q2],640,pr,false,[kQ],[],false,.none,false⟩,⟨[.some (.ref 609),.none,.some (.str pr 1095),.some (.str pr 1103),.some (.builtin q3),.some (.bool false)]⟩⟩,
eV 641,
eQ q4 641,
af q0,
aM,
bH q0 w5 1143 (sZ 0x74) 0,
af q0,
gg 30 uB],
[aO uB 1140 uB 311 1 0 3 644 1145 1146,
gC 30 uB ed 1138 649,
af q0,
aM,
gD w5 1151 FS (sZ 0x74616877),
af q0,
gg 31 uC,
aO uC 1148 uC 314 3 0 3 651 1154 1155,
gC 31 uC ed 1138 656,
af q0,
aM],
[cR q0 ta 1160 0,
af q0,
gg 32 uD,
aO uD 1157 uD 319 1 0 3 658 1161 1162,
gC 32 uD ed 1138 663,
af q0,
kz,
oD q1 [eS P z3 1171 ed 1138,eS P fV 1173 pt 1172,eI P z4 1175 324 1174,eR P z5 1176 672] 4,
af q0,
aM,
gB pt 1166 324 668 379 1169],
[ek 670 667 ed 1138,
af q0,
oD q1 [eS P z3 1171 ed 1138,eI P z4 1175 324 1174,eR P z5 1176 672,eR P rz 1178 675,eR P rE 1180 676,eN P z8 1181] 4,
⟨.type q6,.none,.cls ⟨pt,[.type q2],[.ref 674,.type q2],673,pt,true,[],[],false,.none,false⟩,⟨[.none,.none,.some (.str pt 1164),.some (.str pt 1172),.some (.builtin q3),.some (.bool true)]⟩⟩,
m9 1177 674,
nc 1179 674,
eV 674,
eQ q4 674,
af q0,
kz,
oD q1 [eS P z3 1191 ed 1138,eS P fV 1193 uE 1192,eI P z4 1195 326 1194,eR P er 1198 686,eR P z9 1206 693,eR P uO 1228 702,eR P z6 1235 710,eR P i8 1248 717,eR P z5 1251 718] 9],
[af q0,
tt 329 692 334 699 340 709 343,
gB uE 1186 326 682 379 1189,
ek 684 681 ed 1138,
bH q0 uP 1196 uQ 0,
af q0,
aM,
bH q0 z1 1202 (sZ 0x73656c626172657469) 0,
af q0,
aU 34 1 z9 xQ,
aO z9 1199 xQ 329 1 0 7 687 1204 1205],
[bn 34 1 z9 xQ ed 1138 692,
af q0,
aM,
kE f9 1210 pA (sZ 0x656372756f73) z1,
af q0,
aU 34 2 uO ti,
aO uO 1207 ti 333 2 2 3 694 1214 1215,
tq 34 2 uO ti ed 1138 703 699,
oD q1 [eS P z3 1217 ed 1138,eS P nV 1220 uO 1219,eS P fV 1223 ti 1222,eN P z8 1225,eR P uq 1227 703] 5,
qi 701 700,
oD q1 [] 0],
[af q0,
aM,
cR q0 z1 1232 0,
af q0,
aU 34 3 z6 xR,
aO z6 1229 xR 340 1 0 3 704 1233 1234,
bn 34 3 z6 xR ed 1138 709,
af q0,
aM,
yJ 1239 sX FS (sZ 0x65726f6d) pA (sZ 0x657669746361) rH,
af q0],
[aU 34 4 i8 xS,
aO i8 1236 xS 343 1 0 3 711 1246 1247,
bn 34 4 i8 xS ed 1138 716,
bH q0 uQ 1249 uP 0,
bH q5 uP 1196 uQ 1,
oD q1 [eS P z3 1191 ed 1138,eI P z4 1195 326 1194,eR P er 1198 686,eR P z9 1206 693,eR P uO 1228 702,eR P z6 1235 710,eR P i8 1248 717,eR P z5 1251 718,eR P uQ 1253 722,eR P uP 1255 723,eN P z8 1256] 4,
yK uE 721 720 uQ uP 1184,
kD uQ 1252 721 1,
kD uP 1254 721 0,
eV 721,
eQ q4 721]]
def L4(P:Params):List (List Obj):=[[af q0,
kz,
oD q1 [eS P z3 1266 ed 1138,eS P fV 1268 wH 1267,eI P z4 1270 378 1269,eR P er 1273 733,eR P z9 1283 741,eR P z6 1290 748,eR P i8 1297 755,eR P gp 1305 762,eR P pJ 1312 769,eR P z5 1315 770] 10,
af q0,
⟨.none,.none,.fields ⟨[.int 381 0,.int 4 0,.ref 740,.int 392 0,.int 4 0,.ref 747,.int 395 0,.int 4 0,.ref 754,.int 402 0,.int 4 0,.ref 761,.int 408 0,.int 4 0,.ref 768]⟩,⟨[]⟩⟩,
gB wH 1261 378 729 379 1264,
ek 731 728 ed 1138,
bH q0 uR 1271 uS 0,
kC 674,
af q0,
aM],
[kE z1 1277 Fy (sZ 0x73656d6974) FT,
af q0,
aU 35 1 z9 xT,
aO z9 1274 xT 381 3 0 3 735 1281 1282,
ts 35 1 z9 xT 734 ed 1138,
af q0,
aM,
cR q0 z1 1287 0,
af q0,
aU 35 2 z6 xU,
aO z6 1284 xU 392 1 0 3 742 1288 1289],
[bn 35 2 z6 xU ed 1138 747,
af q0,
aM,
cR q0 z1 1294 0,
af q0,
aU 35 3 i8 xV,
aO i8 1291 xV 395 1 0 3 749 1295 1296,
bn 35 3 i8 xV ed 1138 754,
af q0,
aM,
bH q0 z1 1301 FT 0],
[af q0,
aU 35 4 gp xW,
aO gp 1298 xW 402 1 0 3 756 1303 1304,
bn 35 4 gp xW ed 1138 761,
af q0,
aM,
cR q0 z1 1309 0,
af q0,
aU 35 5 pJ xX,
aO pJ 1306 xX 408 1 0 3 763 1310 1311,
bn 35 5 pJ xX ed 1138 768],
[bH q0 uS 1313 uR 0,
bH q5 uR 1271 uS 1,
oD q1 [eS P z3 1266 ed 1138,eI P z4 1270 378 1269,eR P er 1273 733,eR P z9 1283 741,eR P z6 1290 748,eR P i8 1297 755,eR P gp 1305 762,eR P pJ 1312 769,eR P z5 1315 770,eR P uS 1317 774,eR P uR 1319 775,eN P z8 1320] 4,
yK wH 773 772 uS uR 1259,
kD uS 1316 773 1,
kD uR 1318 773 0,
eV 773,
eQ q4 773,
af q0,
kz,
oD q1 [eS P z3 1330 ed 1138,eS P fV 1332 pD 1331,eI P z4 1334 412 1333,eR P er 1337 785,eR P z9 1346 792,eR P z6 1353 799,eR P i8 1361 806,eR P z5 1364 807] 8],
[af q0,
qh 415 791 419 422,
gB pD 1325 412 781 379 1328,
ek 783 780 ed 1138,
bH q0 uT 1335 uU 0,
af q0,
aM,
gD z1 1341 (sZ 0x6e6f6974636e7566) pA,
af q0,
aU 36 1 z9 xY,
aO z9 1338 xY 415 3 3 3 786 1344 1345],
[bn 36 1 z9 xY ed 1138 791,
af q0,
aM,
cR q0 z1 1350 0,
af q0,
aU 36 2 z6 xZ,
aO z6 1347 xZ 419 1 0 3 793 1351 1352,
bn 36 2 z6 xZ ed 1138 798,
af q0,
aM,
bH q0 z1 1357 (sZ 0x73677261) 0],
[af q0,
aU 36 3 i8 x7,
aO i8 1354 x7 422 1 0 3 800 1359 1360,
bn 36 3 i8 x7 ed 1138 805,
bH q0 uU 1362 uT 0,
bH q5 uT 1335 uU 1,
oD q1 [eS P z3 1330 ed 1138,eI P z4 1334 412 1333,eR P er 1337 785,eR P z9 1346 792,eR P z6 1353 799,eR P i8 1361 806,eR P z5 1364 807,eR P uU 1366 811,eR P uT 1368 812,eN P z8 1369] 4,
yK pD 810 809 uU uT 1323,
kD uU 1365 810 1,
kD uT 1367 810 0,
eV 810],
[eQ q4 810,
af q0,
aM,
kE FQ 1377 pA (sZ 0x7465675f676e697070616d) iS,
af q0,
gg 38 ru,
aO ru 1374 ru 428 2 0 3 815 1381 1382,
gC 38 ru z7 1372 820,
l7,
af q0,
aM],
[gg 40 rx,
tw rx 1386 rx 433 3 823 1389,
⟨.type q8,.none,.func (fo (st 40) rx rx 3 [] (.ref 822) (.none) (.none) (.str (sZ 0x7170616568) 1384) .none (.ref 826) (.none) 0),⟨[]⟩⟩,
af q0,
kz,
oD q1 [eS P z3 1401 pB 1392,eS P fV 1403 pu 1402,eI P z4 1405 479 1404,eR P er 1407 835,eR P z9 1416 842,eR P pK 1427 849,eR P gp 1435 856,eR P mK 1442 863,eR P z5 1444 864] 9,
af q0,
tt 482 841 485 848 494 855 500,
gB pu 1396 479 831 379 1399,
ek 833 830 pB 1392,
cR q0 uV 1406 0],
[af q0,
aM,
gD z1 1411 rH py,
af q0,
aU 42 1 z9 x8,
aO z9 1408 x8 482 2 2 7 836 1414 1415,
bn 42 1 z9 x8 pB 1392 841,
af q0,
aM,
tv 1420 (sZ 0x6a626f) py rJ rH,
af q0]]
def L5(P:Params):List (List Obj):=[[aU 42 2 pK x9,
aO pK 1417 x9 485 2 2 3 843 1425 1426,
bn 42 2 pK x9 pB 1392 848,
af q0,
aM,
bH q0 z1 1431 (sZ 0x72) 0,
af q0,
aU 42 3 gp ya,
aO gp 1428 ya 494 1 0 3 850 1433 1434,
bn 42 3 gp ya pB 1392 855,
af q0],
[aM,
cR q0 z1 1439 0,
af q0,
aU 42 4 mK yb,
aO mK 1436 yb 500 1 0 3 857 1440 1441,
bn 42 4 mK yb pB 1392 862,
cR q0 uV 1443 0,
cR q5 uV 1406 1,
oD q1 [eS P z3 1401 pB 1392,eI P z4 1405 479 1404,eR P er 1407 835,eR P z9 1416 842,eR P pK 1427 849,eR P gp 1435 856,eR P mK 1442 863,eR P z5 1444 864,eR P uV 1446 868,eN P z8 1447] 3,
⟨.type q6,.none,.cls ⟨pu,[.type q2],[.ref 867,.type q2],866,pu,false,[uV],[],false,.none,false⟩,⟨[.none,.none,.some (.str pu 1394),.some (.str pu 1402),.some (.builtin q3),.some (.bool false)]⟩⟩,
kD uV 1445 867 0],
[eV 867,
eQ q4 867,
⟨.type q0,.none,.seq ⟨[.type q1]⟩ 0,⟨[]⟩⟩,
kz,
oD q1 [eS P z3 1459 z7 1450,eS P fV 1461 pv 1460,eI P z4 1463 505 1462,eR P z9 1473 887,eR P pM 1481 894,eR P pN 1488 901,eR P pO 1496 909,eR P pP 1503 916,eR P uW 1524 926,eR P pQ 1537 936,eR P pR 1549 944,eR P pS 1556 951,eR P mK 1563 958,eR P pT 1572 966,eR P gp 1580 973,eR P gA 1590 980,eR P pV 1598 987,eR P lZ 1608 994,eR P l0 1616 1001,eR P l3 1626 1008,eR P l1 1634 1015,eR P pW 1646 1022,eR P l6 1658 1029,eR P l5 1671 1036,eR P l4 1684 1043,eR P pZ 1694 1050,eR P p7 1704 1057,eR P p8 1710 1062,eR P qd 1720 1069,eR P qe 1730 1076,eR P qf 1741 1083,eR P qg 1752 1090,eR P z5 1753 1091,eR P (sZ 0x5f5f6c6c65637373616c635f5f) 1754 874] 34,
⟨.type SL.s15660640913423913556x4,.none,.cell (.some (.ref 1093)),⟨[]⟩⟩,
af q0,
⟨.none,.none,.fields ⟨[.int 507 0,.int 4 0,.ref 886,.int 511 0,.int 4 0,.ref 893,.int 514 0,.int 4 0,.ref 900,.int 517 0,.int 4 0,.ref 908,.int 523 0,.int 4 0,.ref 915,.int 527 0,.int 4 0,.ref 923,.int 530 0,.int 4 0,.ref 935,.int 544 0,.int 4 0,.ref 943,.int 556 0,.int 4 0,.ref 950,.int 559 0,.int 4 0,.ref 957,.int 562 0,.int 4 0,.ref 965,.int 566 0,.int 4 0,.ref 972,.int 575 0,.int 4 0,.ref 979,.int 580 0,.int 4 0,.ref 986,.int 585 0,.int 4 0,.ref 993,.int 590 0,.int 4 0,.ref 1000,.int 595 0,.int 4 0,.ref 1007,.int 600 0,.int 4 0,.ref 1014,.int 605 0,.int 4 0,.ref 1021,.int 618 0,.int 4 0,.ref 1028,.int 631 0,.int 4 0,.ref 1035,.int 645 0,.int 4 0,.ref 1042,.int 656 0,.int 4 0,.ref 1049,.int 663 0,.int 4 0,.ref 1056,.int 670 0,.int 4 0,.ref 1061,.int 676 0,.int 4 0,.ref 1068,.int 681 0,.int 4 0,.ref 1075,.int 686 0,.int 4 0,.ref 1082,.int 693 0,.int 4 0,.ref 1089]⟩,⟨[]⟩⟩,
gB pv 1454 505 875 379 1457,
ek 877 873 z7 1450,
l7],
[kC 874,
cR q0 uX 1467 0,
aM,
gD z1 1468 pA yc,
af q0,
aU 44 0 z9 yd,
aO z9 1464 yd 507 2 2 11 881 1471 1472,
⟨.type q8,.none,.func (fo (sc 44 0) z9 yd 3 [(uX,874)] (.ref 879) (.none) (.none) (.str z7 1450) .none (.ref 886) (.ref 880) 0),⟨[]⟩⟩,
af q0,
aM,
bH q0 z1 1477 nW 0],
[af q0,
aU 44 1 pM ye,
aO pM 1474 ye 511 2 0 3 888 1479 1480,
bn 44 1 pM ye z7 1450 893,
af q0,
aM,
cR q0 z1 1485 0,
af q0,
aU 44 2 pN yf,
aO pN 1482 yf 514 1 0 3 895 1486 1487,
bn 44 2 pN yf z7 1450 900],
[l7,
af q0,
aM,
bH q0 z1 1492 (sZ 0x6e) 0,
af q0,
aU 44 3 pO yg,
aO pO 1489 yg 517 2 0 3 903 1494 1495,
ts 44 3 pO yg 902 z7 1450,
af q0,
aM,
cR q0 z1 1500 0],
[af q0,
aU 44 4 pP yh,
aO pP 1497 yh 523 1 0 3 910 1501 1502,
bn 44 4 pP yh z7 1450 915,
l7,
af q0,
aM,
gD f9 1507 pA xJ,
af q0,
aU 44 5 uW tj,
aO uW 1504 tj 526 3 0 3 918 1510 1511],
[⟨.type q8,.none,.func (fo (sc 44 5) uW tj 3 [] (.ref 917) (.none) (.none) (.str z7 1450) (.some 927) (.ref 923) (.none) 0),⟨[]⟩⟩,
oD q1 [eS P z3 1513 z7 1450,eS P nV 1516 uW 1515,eS P fV 1519 tj 1518,eN P z8 1521,eR P uq 1523 927] 5,
qi 925 924,
oD q1 [] 0,
l7,
kC 874,
cR q0 uX 1528 0,
aM,
tz 1529 pA yc FU iS kR,
af q0,
aU 44 6 pQ yi],
[aO pQ 1525 yi 530 2 2 11 930 1535 1536,
⟨.type q8,.none,.func (fo (sc 44 6) pQ yi 3 [(uX,874)] (.ref 928) (.none) (.none) (.str z7 1450) .none (.ref 935) (.ref 929) 0),⟨[]⟩⟩,
l7,
af q0,
aM,
tz 1541 pA yc FU iS kR,
af q0,
aU 44 7 pR yj,
aO pR 1538 yj 544 2 2 11 938 1547 1548,
ts 44 7 pR yj 937 z7 1450,
af q0],
[aM,
cR q0 z1 1553 0,
af q0,
aU 44 8 pS yk,
aO pS 1550 yk 556 1 0 3 945 1554 1555,
bn 44 8 pS yk z7 1450 950,
af q0,
aM,
cR q0 z1 1560 0,
af q0,
aU 44 9 mK yl],
[aO mK 1557 yl 559 1 0 3 952 1561 1562,
bn 44 9 mK yl z7 1450 957,
kC 874,
cR q0 uX 1567 0,
aM,
bH q0 z1 1568 iS 0,
af q0,
aU 44 10 pT ym,
aO pT 1564 ym 562 2 0 3 960 1570 1571,
⟨.type q8,.none,.func (fo (sc 44 10) pT ym 3 [(uX,874)] (.none) (.none) (.none) (.str z7 1450) .none (.ref 965) (.ref 959) 0),⟨[]⟩⟩,
af q0]]
def L6:List (List Obj):=[[aM,
bH q0 z1 1576 (sZ 0x64) 0,
af q0,
aU 44 11 gp yn,
aO gp 1573 yn 566 1 0 3 967 1578 1579,
bn 44 11 gp yn z7 1450 972,
af q0,
aM,
bH q0 z1 1584 et 0,
bH q0 z1 1586 et 0,
aU 44 12 gA yo],
[yL,
bn 44 12 gA yo z7 1450 979,
af q0,
aM,
bH q0 z1 1594 et 0,
af q0,
aU 44 13 pV yp,
aO pV 1591 yp 580 2 0 3 981 1596 1597,
bn 44 13 pV yp z7 1450 986,
af q0,
aM],
[bH q0 z1 1602 et 0,
bH q0 z1 1604 et 0,
aU 44 14 lZ yq,
aO lZ 1599 yq 585 2 0 3 988 1606 1607,
bn 44 14 lZ yq z7 1450 993,
af q0,
aM,
bH q0 z1 1612 et 0,
af q0,
aU 44 15 l0 yr,
aO l0 1609 yr 590 2 0 3 995 1614 1615],
[bn 44 15 l0 yr z7 1450 1000,
af q0,
aM,
bH q0 z1 1620 et 0,
bH q0 z1 1622 et 0,
aU 44 16 l3 yt,
aO l3 1617 yt 595 2 0 3 1002 1624 1625,
bn 44 16 l3 yt z7 1450 1007,
af q0,
aM,
bH q0 z1 1630 et 0],
[af q0,
aU 44 17 l1 yu,
aO l1 1627 yu 600 2 0 3 1009 1632 1633,
bn 44 17 l1 yu z7 1450 1014,
af q0,
aM,
tz 1638 et rJ iS kR tm,
af q0,
aU 44 18 pW yv,
aO pW 1635 yv 605 2 0 3 1016 1644 1645,
bn 44 18 pW yv z7 1450 1021],
[af q0,
aM,
tz 1650 et rJ iS kR tm,
af q0,
aU 44 19 l6 yw,
aO l6 1647 yw 618 2 0 3 1023 1656 1657,
bn 44 19 l6 yw z7 1450 1028,
af q0,
aM,
yJ 1662 et rJ iS kR tn tm,
af q0],
[aU 44 20 l5 yx,
aO l5 1659 yx 631 2 0 3 1030 1669 1670,
bn 44 20 l5 yx z7 1450 1035,
af q0,
aM,
yJ 1675 et rJ iS kR tn tm,
af q0,
aU 44 21 l4 yy,
aO l4 1672 yy 645 2 0 3 1037 1682 1683,
bn 44 21 l4 yy z7 1450 1042,
af q0],
[aM,
kE z1 1688 rJ iS kR,
af q0,
aU 44 22 pZ yz,
aO pZ 1685 yz 656 1 0 3 1044 1692 1693,
bn 44 22 pZ yz z7 1450 1049,
af q0,
aM,
kE z1 1698 rJ iS kR,
af q0,
aU 44 23 p7 yA],
[aO p7 1695 yA 663 1 0 3 1051 1702 1703,
bn 44 23 p7 yA z7 1450 1056,
af q0,
aM,
aU 44 24 p8 yB,
tw p8 1705 yB 670 1 1058 1708,
bn 44 24 p8 yB z7 1450 1061,
af q0,
aM,
kE z1 1714 et iS kR,
af q0],
[aU 44 25 qd yC,
aO qd 1711 yC 676 2 0 3 1063 1718 1719,
bn 44 25 qd yC z7 1450 1068,
af q0,
aM,
kE z1 1724 et iS kR,
af q0,
aU 44 26 qe yD,
aO qe 1721 yD 681 2 0 3 1070 1728 1729,
bn 44 26 qe yD z7 1450 1075,
af q0],
[aM,
tv 1734 et iS tn kR,
af q0,
aU 44 27 qf yE,
aO qf 1731 yE 686 2 0 3 1077 1739 1740,
bn 44 27 qf yE z7 1450 1082,
af q0,
aM,
tv 1745 et iS kR tn,
af q0,
aU 44 28 qg yF]]
def L7(P:Params):List (List Obj):=[[aO qg 1742 yF 693 2 0 3 1084 1750 1751,
bn 44 28 qg yF z7 1450 1089,
af q0,
oD q1 [eS P z3 1459 z7 1450,eI P z4 1463 505 1462,eR P z9 1473 887,eR P pM 1481 894,eR P pN 1488 901,eR P pO 1496 909,eR P pP 1503 916,eR P uW 1524 926,eR P pQ 1537 936,eR P pR 1549 944,eR P pS 1556 951,eR P mK 1563 958,eR P pT 1572 966,eR P gp 1580 973,eR P gA 1590 980,eR P pV 1598 987,eR P lZ 1608 994,eR P l0 1616 1001,eR P l3 1626 1008,eR P l1 1634 1015,eR P pW 1646 1022,eR P l6 1658 1029,eR P l5 1671 1036,eR P l4 1684 1043,eR P pZ 1694 1050,eR P p7 1704 1057,eR P p8 1710 1062,eR P qd 1720 1069,eR P qe 1730 1076,eR P qf 1741 1083,eR P qg 1752 1090,eR P z5 1753 1091,eR P rz 1756 1094,eR P rE 1758 1095,eN P z8 1759,eN P px 1760] 6,
⟨.type q6,.none,.cls ⟨pv,[.type q1],[.ref 1093,.type q1,.type q2],1092,pv,true,[],[],false,.none,false⟩,⟨[.some (.ref 871),.none,.some (.str pv 1452),.some (.str pv 1460),.some (.builtin SL.s15987600418018006706x12),.some (.bool true)]⟩⟩,
m9 1755 1093,
nc 1757 1093,
eV 1093,
eQ q4 1093,
af q0,
aM],
[gg 46 uF,
tw uF 1765 uF 700 2 1098 1768,
gC 46 uF wI 1763 1101,
af q0,
aM,
gg 47 pE,
tw pE 1771 pE 702 1 1103 1774,
gC 47 pE wI 1763 1106]]
def fin(P:Params)(b:Nat):Obj:=wF default (wF [] (wF [] [LY P,LZ P,L0 P,L1 P,L2 P,L3 P,L4 P,L5 P,L6,L7 P] (Nat.div b 121)) (Nat.mod (Nat.div b 11) 11)) (Nat.mod b 11)
def L8(P:Params)(b:Nat):Obj:=cY (fin P) [(3,oA P uY 164 11 12)] b 0
def T0(P:Params):BT:=tr (L8 P) 50 12 1 0
def L9(P:Params)(b:Nat):Obj:=cY (fin P) [(3,oA P uY 164 11 12),(51,oB 0)] b 1
def T1(P:Params):BT:=tr (L9 P) 54 12 1 0
def yM(P:Params)(b:Nat):Obj:=cY (fin P) [(3,oA P z0 418 15 16),(51,oB 12)] b 2
def T2(P:Params):BT:=tr (yM P) 120 12 1 0
def Ma(P:Params)(b:Nat):Obj:=cY (fin P) [(3,oA P z0 418 21 22),(51,oB 30),(187,ng pC 187 186 503)] b 3
def T3(P:Params):BT:=tr (Ma P) 192 12 1 0
def Mb(P:Params)(b:Nat):Obj:=cY (fin P) [(3,oA P z0 418 22 23),(51,oB 33),(187,ng pC 187 186 503),(217,ng jE 217 216 549)] b 4
def T4(P:Params):BT:=tr (Mb P) 221 12 1 0
def Mc(P:Params)(b:Nat):Obj:=cY (fin P) [(3,oA P z0 418 23 24),(51,oB 36),(187,ng pC 187 186 503),(217,ng jE 217 216 549),(253,ng uA 253 252 586)] b 5
def T5(P:Params):BT:=tr (Mc P) 258 12 1 0
def Md(P:Params)(b:Nat):Obj:=cY (fin P) [(3,oA P z0 418 24 25),(51,oB 39),(217,nf jE 217 216 549),(276,⟨.ref 110,.none,.cls ⟨dE,[.ref 217,.ref 187,.ref 253],[.ref 276,.ref 217,.ref 187,.ref 253,.type q2],275,dE,false,[],[],true,.none,false⟩,⟨[.some (.ref 258),.none,.some (.str dE 633),.some (.str dE 641),.some (.builtin q3),.some (.bool false)]⟩⟩)] b 6
def T6(P:Params):BT:=tr (Md P) 280 12 1 0
def Me(P:Params)(b:Nat):Obj:=cY (fin P) [(3,oA P z0 418 25 26),(51,oB 42),(217,nf jE 217 216 549),(276,⟨.ref 110,.none,.cls ⟨dE,[.ref 217,.ref 187,.ref 253],[.ref 276,.ref 217,.ref 187,.ref 253,.type q2],275,dE,false,[],[.ref 392],true,.none,false⟩,⟨[.some (.ref 258),.none,.some (.str dE 633),.some (.str dE 641),.some (.builtin q3),.some (.bool false)]⟩⟩),(391,oD q1 [eS P z3 672 z0 418,eI P z4 676 97 675,eR P er 677 287,eR P lZ 686 294,eR P l0 694 301,eR P l1 702 308,eR P l3 711 315,eR P gA 719 322,eR P gQ 739 331,eR P l4 748 339,eR P xa 749 339,eR P uH 757 346,eR P l5 766 353,eR P xb 767 353,eR P l6 776 360,eR P uI 785 367,eR P uJ 793 374,eR P xc 794 374,eR P uK 801 381,eR P z2 809 388,eR P z5 810 389,eN P z8 811,eN P px 812] 3),(392,⟨.ref 110,.none,.cls ⟨eP,[.ref 276],[.ref 392,.ref 276,.ref 217,.ref 187,.ref 253,.type q2],391,eP,false,[],[],false,.none,false⟩,⟨[.some (.ref 280),.none,.some (.str eP 665),.some (.str eP 673),.some (.builtin q3),.some (.bool false)]⟩⟩)] b 7
def T7(P:Params):BT:=tr (Me P) 395 12 1 0
def Mf(P:Params)(b:Nat):Obj:=cY (fin P) [(3,oA P z0 418 25 26),(51,oB 42),(217,nf jE 217 216 549),(276,⟨.ref 110,.none,.cls ⟨dE,[.ref 217,.ref 187,.ref 253],[.ref 276,.ref 217,.ref 187,.ref 253,.type q2],275,dE,false,[],[.ref 392],true,.none,false⟩,⟨[.some (.ref 258),.none,.some (.str dE 633),.some (.str dE 641),.some (.builtin q3),.some (.bool false)]⟩⟩),(392,⟨.ref 110,.none,.cls ⟨eP,[.ref 276],[.ref 392,.ref 276,.ref 217,.ref 187,.ref 253,.type q2],391,eP,false,[],[],true,.none,false⟩,⟨[.some (.ref 280),.none,.some (.str eP 665),.some (.str eP 673),.some (.builtin q3),.some (.bool false)]⟩⟩)] b 8
def T8(P:Params):BT:=tr (Mf P) 396 12 1 0
def Mg(P:Params)(b:Nat):Obj:=cY (fin P) [(3,oA P z0 418 26 27),(51,oB 45),(217,nf jE 217 216 549),(276,⟨.ref 110,.none,.cls ⟨dE,[.ref 217,.ref 187,.ref 253],[.ref 276,.ref 217,.ref 187,.ref 253,.type q2],275,dE,false,[],[.ref 392,.ref 464],true,.none,false⟩,⟨[.some (.ref 258),.none,.some (.str dE 633),.some (.str dE 641),.some (.builtin q3),.some (.bool false)]⟩⟩),(392,⟨.ref 110,.none,.cls ⟨eP,[.ref 276],[.ref 392,.ref 276,.ref 217,.ref 187,.ref 253,.type q2],391,eP,false,[],[],true,.none,false⟩,⟨[.some (.ref 280),.none,.some (.str eP 665),.some (.str eP 673),.some (.builtin q3),.some (.bool false)]⟩⟩),(463,oD q1 [eS P z3 829 z0 418,eI P z4 833 186 832,eR P er 834 403,eR P rI 842 410,eR P uL 851 418,eR P eC 859 425,eR P uM 866 432,eR P py 873 439,eR P uN 880 446,eR P gA 888 453,eN P xr 889,eR P z2 897 460,eR P z5 898 461,eN P z8 899,eN P px 900] 3),(464,⟨.ref 110,.none,.cls ⟨kP,[.ref 276],[.ref 464,.ref 276,.ref 217,.ref 187,.ref 253,.type q2],463,kP,false,[],[],false,.none,false⟩,⟨[.some (.ref 396),.none,.some (.str kP 822),.some (.str kP 830),.some (.builtin q3),.some (.bool false)]⟩⟩)] b 9
def T9(P:Params):BT:=tr (Mg P) 467 12 1 0
def I5(P:Params)(b:Nat):Obj:=cY (fin P) [(3,oA P z0 418 27 28),(51,oB 48),(276,⟨.ref 110,.none,.cls ⟨dE,[.ref 217,.ref 187,.ref 253],[.ref 276,.ref 217,.ref 187,.ref 253,.type q2],275,dE,false,[],[.ref 392,.ref 464],true,.none,false⟩,⟨[.some (.ref 258),.none,.some (.str dE 633),.some (.str dE 641),.some (.builtin q3),.some (.bool false)]⟩⟩),(392,⟨.ref 110,.none,.cls ⟨eP,[.ref 276],[.ref 392,.ref 276,.ref 217,.ref 187,.ref 253,.type q2],391,eP,false,[],[],true,.none,false⟩,⟨[.some (.ref 280),.none,.some (.str eP 665),.some (.str eP 673),.some (.builtin q3),.some (.bool false)]⟩⟩),(514,⟨.ref 110,.none,.cls ⟨gz,[.ref 217],[.ref 514,.ref 217,.type q2],513,gz,false,[kQ],[],false,.none,false⟩,⟨[.some (.ref 468),.none,.some (.str gz 910),.some (.str gz 918),.some (.builtin q3),.some (.bool false)]⟩⟩)] b 10
def Mh(P:Params):BT:=tr (I5 P) 519 12 1 0
def I6(P:Params)(b:Nat):Obj:=cY (fin P) [(3,oA P z0 418 28 29),(51,oB 51),(276,⟨.ref 110,.none,.cls ⟨dE,[.ref 217,.ref 187,.ref 253],[.ref 276,.ref 217,.ref 187,.ref 253,.type q2],275,dE,false,[],[.ref 392,.ref 464],true,.none,false⟩,⟨[.some (.ref 258),.none,.some (.str dE 633),.some (.str dE 641),.some (.builtin q3),.some (.bool false)]⟩⟩),(392,⟨.ref 110,.none,.cls ⟨eP,[.ref 276],[.ref 392,.ref 276,.ref 217,.ref 187,.ref 253,.type q2],391,eP,false,[],[.ref 561],true,.none,false⟩,⟨[.some (.ref 280),.none,.some (.str eP 665),.some (.str eP 673),.some (.builtin q3),.some (.bool false)]⟩⟩),(514,⟨.ref 110,.none,.cls ⟨gz,[.ref 217],[.ref 514,.ref 217,.type q2],513,gz,false,[kQ],[.ref 561],false,.none,false⟩,⟨[.some (.ref 468),.none,.some (.str gz 910),.some (.str gz 918),.some (.builtin q3),.some (.bool false)]⟩⟩)] b 11
def Mi(P:Params):BT:=tr (I6 P) 564 12 1 0
def I7(P:Params)(b:Nat):Obj:=cY (fin P) [(3,oA P z0 418 29 30),(51,oB 54),(276,⟨.ref 110,.none,.cls ⟨dE,[.ref 217,.ref 187,.ref 253],[.ref 276,.ref 217,.ref 187,.ref 253,.type q2],275,dE,false,[],[.ref 392,.ref 464],true,.none,false⟩,⟨[.some (.ref 258),.none,.some (.str dE 633),.some (.str dE 641),.some (.builtin q3),.some (.bool false)]⟩⟩),(514,⟨.ref 110,.none,.cls ⟨gz,[.ref 217],[.ref 514,.ref 217,.type q2],513,gz,false,[kQ],[.ref 561,.ref 606],false,.none,false⟩,⟨[.some (.ref 468),.none,.some (.str gz 910),.some (.str gz 918),.some (.builtin q3),.some (.bool false)]⟩⟩)] b 12
def Mj(P:Params):BT:=tr (I7 P) 609 12 1 0
def I8(P:Params)(b:Nat):Obj:=cY (fin P) [(3,oA P ed 1138 33 34),(51,oB 66)] b 13
def Mk(P:Params):BT:=tr (I8 P) 665 12 1 0
def I9(P:Params)(b:Nat):Obj:=cY (fin P) [(3,oA P ed 1138 34 35),(51,oB 69)] b 14
def Ml(P:Params):BT:=tr (I9 P) 679 12 1 0
def Ja(P:Params)(b:Nat):Obj:=cY (fin P) [(3,oA P ed 1138 35 36),(51,oB 72)] b 15
def Mn(P:Params):BT:=tr (Ja P) 726 12 1 0
def Jb(P:Params)(b:Nat):Obj:=cY (fin P) [(3,oA P ed 1138 36 37),(51,oB 75)] b 16
def Mp(P:Params):BT:=tr (Jb P) 778 12 1 0
def Jc(P:Params)(b:Nat):Obj:=cY (fin P) [(3,oA P pB 1392 39 40),(51,oB 84)] b 17
def Mq(P:Params):BT:=tr (Jc P) 828 12 1 0
def Jd(P:Params)(b:Nat):Obj:=cY (fin P) [(3,oA P z7 1450 40 41),(51,oB 87)] b 18
def Mr(P:Params):BT:=tr (Jd P) 871 12 1 0
def Je(P:Params)(b:Nat):Obj:=cY (fin P) [(3,oA P z7 1450 41 42),(51,oB 90)] b 19
def Ms(P:Params):BT:=tr (Je P) 1098 12 1 0
def tD(P:Params):Nat->Obj:=fin P
def gb(P:Params):BT:=tr (tD P) 1108 12 1 0
noncomputable def life:Life:={}
noncomputable def i9:List Str:=[sU,sV,sW,ur,pj,pk,ut,uv,uw,ux,uy,uz,pC,jE,uA,dE,eP,kP,gz,pn,pq,pr,uB,uC,uD,pt,uE,wH,pD,ru,rx,pu,pv,uF]
noncomputable def S0 (w:World) (os:OsState):SharedT:=⟨T0 w.params,50,life,⟨[]⟩,bR,379,os⟩
noncomputable def S1 (w:World) (os:OsState):SharedT:=⟨T1 w.params,54,life,⟨[]⟩,bR,385,os⟩
noncomputable def S2 (w:World) (os:OsState):SharedT:=⟨T2 w.params,120,life,⟨[]⟩,bR,468,os⟩
noncomputable def S3 (w:World) (os:OsState):SharedT:=⟨T3 w.params,192,life,⟨[]⟩,bR,549,os⟩
noncomputable def S4 (w:World) (os:OsState):SharedT:=⟨T4 w.params,221,life,⟨[]⟩,bR,586,os⟩
noncomputable def S5 (w:World) (os:OsState):SharedT:=⟨T5 w.params,258,life,⟨[]⟩,bR,633,os⟩
noncomputable def S6 (w:World) (os:OsState):SharedT:=⟨T6 w.params,280,life,⟨[]⟩,bR,665,os⟩
noncomputable def S7 (w:World) (os:OsState):SharedT:=⟨T7 w.params,395,life,⟨[]⟩,bR,815,os⟩
noncomputable def S8 (w:World) (os:OsState):SharedT:=⟨T8 w.params,396,life,⟨[]⟩,bR,822,os⟩
noncomputable def S9 (w:World) (os:OsState):SharedT:=⟨T9 w.params,467,life,⟨[]⟩,bR,903,os⟩
noncomputable def Jf (w:World) (os:OsState):SharedT:=⟨Mh w.params,519,life,⟨[]⟩,bR,971,os⟩
noncomputable def Jg (w:World) (os:OsState):SharedT:=⟨Mi w.params,564,life,⟨[]⟩,bR,1031,os⟩
noncomputable def Jh (w:World) (os:OsState):SharedT:=⟨Mj w.params,609,life,⟨[]⟩,bR,1095,os⟩
noncomputable def Ji (w:World) (os:OsState):SharedT:=⟨Mk w.params,665,life,⟨[]⟩,bR,1164,os⟩
noncomputable def Jj (w:World) (os:OsState):SharedT:=⟨Ml w.params,679,life,⟨[]⟩,bR,1184,os⟩
noncomputable def Jk (w:World) (os:OsState):SharedT:=⟨Mn w.params,726,life,⟨[]⟩,bR,1259,os⟩
noncomputable def Jl (w:World) (os:OsState):SharedT:=⟨Mp w.params,778,life,⟨[]⟩,bR,1323,os⟩
noncomputable def Jm (w:World) (os:OsState):SharedT:=⟨Mq w.params,828,life,⟨[]⟩,bR,1394,os⟩
noncomputable def Jn (w:World) (os:OsState):SharedT:=⟨Mr w.params,871,life,⟨[]⟩,bR,1452,os⟩
noncomputable def Jo (w:World) (os:OsState):SharedT:=⟨Ms w.params,1098,life,⟨[]⟩,bR,1763,os⟩
noncomputable def DN (w:World) (os:OsState):SharedT:=⟨gb w.params,1108,life,⟨[]⟩,bR,1777,os⟩
def dJ:Env:={scope:=pw.main.scope,locals:=mainNs,globals:=mainNs,cells:=[],code:=.ref 52,frame:=some 53}
noncomputable def cT:Code:=.body (behindTheImports pw) dJ
noncomputable def fI:List Frame:=[topFrame ⟨0,0,0,0⟩]
noncomputable def dA (i k:Nat):List Stmt:=(Fw.drop i).take k
theorem bE (w:World) (n:Nat) (S:SharedT) (l:List Stmt) (q:Pos):segRunT treeTable pw w 50 (some (.ref 6)) 1 n S (piecesOf l dJ cT q fI)=
  Fast.tw10110043849684766642 Fast.tw14364793385576792824 pw w 50 (some (.ref 6)) 1 n S ⟨(Fast.tw12563942051412417395 l dJ).wrap doneF deadEnd id id,cT,q,fI⟩:=by
 unfold piecesOf
 rw [Fast.te10110043849684766642,Fast.te14364793385576792824,Fast.te12563942051412417395]
theorem DO (w:World) (os:OsState):segRunT treeTable pw w 50 (some (.ref 6)) 1 595 (S1 w os) (piecesOf (dA 2 6) dJ cT ⟨0,0,0,0⟩ fI)=some (.next,S2 w os,cT,⟨27,0,29,16⟩):=by
 rw [bE]
 kernel_rfl
theorem DP (w:World) (os:OsState):segRunT treeTable pw w 50 (some (.ref 6)) 1 547 (S2 w os) (piecesOf (dA 8 7) dJ cT ⟨27,0,29,16⟩ fI)=some (.next,S3 w os,cT,⟨58,0,58,28⟩):=by
 rw [bE]
 kernel_rfl
theorem DQ (w:World) (os:OsState):segRunT treeTable pw w 50 (some (.ref 6)) 1 364 (S3 w os) (piecesOf (dA 15 2) dJ cT ⟨58,0,58,28⟩ fI)=some (.next,S4 w os,cT,⟨70,0,70,25⟩):=by
 rw [bE]
 kernel_rfl
theorem DR (w:World) (os:OsState):segRunT treeTable pw w 50 (some (.ref 6)) 1 403 (S4 w os) (piecesOf (dA 17 2) dJ cT ⟨70,0,70,25⟩ fI)=some (.next,S5 w os,cT,⟨85,0,85,29⟩):=by
 rw [bE]
 kernel_rfl
theorem DS (w:World) (os:OsState):segRunT treeTable pw w 50 (some (.ref 6)) 1 441 (S5 w os) (piecesOf (dA 19 2) dJ cT ⟨85,0,85,29⟩ fI)=some (.next,S6 w os,cT,⟨96,0,96,30⟩):=by
 rw [bE]
 kernel_rfl
theorem DT (w:World) (os:OsState):segRunT treeTable pw w 50 (some (.ref 6)) 1 956 (S6 w os) (piecesOf (dA 21 1) dJ cT ⟨96,0,96,30⟩ fI)=some (.next,S7 w os,cT,⟨97,0,184,45⟩):=by
 rw [bE]
 kernel_rfl
theorem DU (w:World) (os:OsState):segRunT treeTable pw w 50 (some (.ref 6)) 1 58 (S7 w os) (piecesOf (dA 22 1) dJ cT ⟨97,0,184,45⟩ fI)=some (.next,S8 w os,cT,⟨185,0,185,23⟩):=by
 rw [bE]
 kernel_rfl
theorem DV (w:World) (os:OsState):segRunT treeTable pw w 50 (some (.ref 6)) 1 596 (S8 w os) (piecesOf (dA 23 1) dJ cT ⟨185,0,185,23⟩ fI)=some (.next,S9 w os,cT,⟨186,0,225,45⟩):=by
 rw [bE]
 kernel_rfl
theorem DW (w:World) (os:OsState):segRunT treeTable pw w 50 (some (.ref 6)) 1 518 (S9 w os) (piecesOf (dA 24 2) dJ cT ⟨186,0,225,45⟩ fI)=some (.next,Jf w os,cT,⟨227,0,247,18⟩):=by
 rw [bE]
 kernel_rfl
theorem DX (w:World) (os:OsState):segRunT treeTable pw w 50 (some (.ref 6)) 1 641 (Jf w os) (piecesOf (dA 26 1) dJ cT ⟨227,0,247,18⟩ fI)=some (.next,Jg w os,cT,⟨248,0,265,45⟩):=by
 rw [bE]
 kernel_rfl
theorem yN (w:World) (os:OsState):segRunT treeTable pw w 50 (some (.ref 6)) 1 645 (Jg w os) (piecesOf (dA 27 1) dJ cT ⟨248,0,265,45⟩ fI)=some (.next,Jh w os,cT,⟨266,0,290,45⟩):=by
 rw [bE]
 kernel_rfl
theorem yO (w:World) (os:OsState):segRunT treeTable pw w 50 (some (.ref 6)) 1 565 (Jh w os) (piecesOf (dA 28 5) dJ cT ⟨266,0,290,45⟩ fI)=some (.next,Ji w os,cT,⟨319,0,323,28⟩):=by
 rw [bE]
 kernel_rfl
theorem yP (w:World) (os:OsState):segRunT treeTable pw w 50 (some (.ref 6)) 1 191 (Ji w os) (piecesOf (dA 33 1) dJ cT ⟨319,0,323,28⟩ fI)=some (.next,Jj w os,cT,⟨324,0,325,8⟩):=by
 rw [bE]
 kernel_rfl
theorem yQ (w:World) (os:OsState):segRunT treeTable pw w 50 (some (.ref 6)) 1 487 (Jj w os) (piecesOf (dA 34 1) dJ cT ⟨324,0,325,8⟩ fI)=some (.next,Jk w os,cT,⟨326,0,377,30⟩):=by
 rw [bE]
 kernel_rfl
theorem yR (w:World) (os:OsState):segRunT treeTable pw w 50 (some (.ref 6)) 1 385 (Jk w os) (piecesOf (dA 35 1) dJ cT ⟨326,0,377,30⟩ fI)=some (.next,Jl w os,cT,⟨378,0,411,24⟩):=by
 rw [bE]
 kernel_rfl
theorem yS (w:World) (os:OsState):segRunT treeTable pw w 50 (some (.ref 6)) 1 403 (Jl w os) (piecesOf (dA 36 6) dJ cT ⟨378,0,411,24⟩ fI)=some (.next,Jm w os,cT,⟨478,0,478,8⟩):=by
 rw [bE]
 kernel_rfl
theorem yT (w:World) (os:OsState):segRunT treeTable pw w 50 (some (.ref 6)) 1 350 (Jm w os) (piecesOf (dA 42 2) dJ cT ⟨478,0,478,8⟩ fI)=some (.next,Jn w os,cT,⟨504,0,504,8⟩):=by
 rw [bE]
 kernel_rfl
theorem yU (w:World) (os:OsState):segRunT treeTable pw w 50 (some (.ref 6)) 1 1325 (Jn w os) (piecesOf (dA 44 1) dJ cT ⟨504,0,504,8⟩ fI)=some (.next,Jo w os,cT,⟨505,0,698,36⟩):=by
 rw [bE]
 kernel_rfl
theorem yV (w:World) (os:OsState):segRunT treeTable pw w 50 (some (.ref 6)) 1 62 (Jo w os) (piecesOf (dA 45 3) dJ cT ⟨505,0,698,36⟩ fI)=some (.next,DN w os,cT,⟨702,0,742,91⟩):=by
 rw [bE]
 kernel_rfl
theorem GS (w:World):(fencedOpening treeTable pw w 20000).map (fun s=>(s.heap,s.gens,s.drawn,s.toks))=some (absHeap (T0 w.params) 50 life,⟨[]⟩,bR,(S0 w (start (opening pw)).1.os).toks):=by
 unfold fencedOpening
 rw [Fast.te10274390034422433532,Fast.te14364793385576792824,Fast.te1435165496053646825,Fast.te14289696077712309145]
 kernel_rfl
theorem Jp (w:World) (os:OsState):topGo treeTable pw w 50 (some (.ref 6)) 12 (S0 w os).abs (topStub pw)=some ((S1 w os).abs,⟨denote treeTable cT,cT,⟨0,0,0,0⟩,fI⟩):=by
 rw [Fast.te15667345088766844465,Fast.te11892475500146522536,Fast.te14364793385576792824]
 kernel_rfl
theorem DY (w:World) (os:OsState):segRun treeTable pw w 50 (some (.ref 6)) 1 1 (S1 w os).abs (blockOf (behindTheImports pw) dJ cT ⟨0,0,0,0⟩ fI)=some (.next,(S1 w os).abs,cT,⟨0,0,0,0⟩):=by
 rw [Fast.te14374325043358763698,Fast.te14364793385576792824]
 unfold blockOf
 rw [Fast.te1066825118222455980]
 kernel_rfl
theorem Jq (w:World) (os:OsState):topRun treeTable pw w 50 (some (.ref 6)) 2 (DN w os).abs ⟨doneF .next,cT,⟨702,0,742,91⟩,fI⟩=some (DN w os).abs:=by
 rw [Fast.te14082659384304107361,Fast.te14364793385576792824]
 kernel_rfl
theorem Jr:behindTheImports pw=dA 2 6++(dA 8 7++(dA 15 2++(dA 17 2++(dA 19 2++(dA 21 1++(dA 22 1++(dA 23 1++(dA 24 2++(dA 26 1++(dA 27 1++(dA 28 5++(dA 33 1++(dA 34 1++(dA 35 1++(dA 36 6++(dA 42 2++(dA 44 1++(dA 45 3++[])))))))))))))))))):=by kernel_rfl
theorem Js (w:World) (os:OsState):topRun treeTable pw w 50 (some (.ref 6)) (12+(1+(595+(547+(364+(403+(441+(956+(58+(596+(518+(641+(645+(565+(191+(487+(385+(403+(350+(1325+(62+2))))))))))))))))))))) (S0 w os).abs (topStub pw)=some (DN w os).abs:=by
 refine go_top (Jp w os) (piece_block (DY w os) ?_)
 rw [Jr]
 exact (piece_app (segRun_of (DO w os)) (piece_app (segRun_of (DP w os)) (piece_app (segRun_of (DQ w os)) (piece_app (segRun_of (DR w os)) (piece_app (segRun_of (DS w os)) (piece_app (segRun_of (DT w os)) (piece_app (segRun_of (DU w os)) (piece_app (segRun_of (DV w os)) (piece_app (segRun_of (DW w os)) (piece_app (segRun_of (DX w os)) (piece_app (segRun_of (yN w os)) (piece_app (segRun_of (yO w os)) (piece_app (segRun_of (yP w os)) (piece_app (segRun_of (yQ w os)) (piece_app (segRun_of (yR w os)) (piece_app (segRun_of (yS w os)) (piece_app (segRun_of (yT w os)) (piece_app (segRun_of (yU w os)) (piece_app (segRun_of (yV w os)) (piece_nil (Jq w os)))))))))))))))))))))
def GT:Nat:=47
noncomputable def qv:Program:={pw with main:={pw.main with body:=[st GT]}}
noncomputable def jY (w:World):Heap:=absHeap (gb w.params) 1108 life
noncomputable def Yf (s:Shared):Heap×Nat:=(s.heap,s.toks)
noncomputable def Ya (w:World):Heap×Nat:=(jY w,1777)
theorem GU (w:World):(((fun P=>absHeap (T0 P) 50 life) w.params).isNs mainGlobals&&(⟨[]⟩:Array GenState).size==0,((fun P=>absHeap (T0 P) 50 life) w.params).objs.size,((fun P=>absHeap (T0 P) 50 life) w.params).nsMap mainGlobals "__annotations__")=(true,50,some (.ref 6)):=by
 rw [Fast.te8920871248978507458]
 kernel_rfl
theorem GV (w:World) (os:OsState):(staticsOk (importedModules pw.main.body) (absHeap (T0 w.params) 50 life) (jY w)&&namesBound pw (jY w)&&gensDone ⟨jY w,⟨[]⟩,bR,1777,os⟩&&laidKept (absHeap (T0 w.params) 50 life) (jY w))=true:=by
 kernel_rfl
theorem GW (w:World) (os:OsState):openSeen qv i9 (importedModules pw.main.body) (fun _=>true) true ⟨jY w,⟨[]⟩,bR,1777,os⟩=openGood qv i9:=by
 rw [Fast.te4187177175401517315]
 kernel_rfl
theorem GX:LeftO pw qv i9 (fun _=>true) Yf Ya 20000:=
 LeftO.of_pieces (H₀:=fun P=>absHeap (T0 P) 50 life) (H₁:=fun P=>absHeap (gb P) 1108 life) GS GU Js (by decide) fun w=>funext fun os=>Prod.ext (GV w os) (Prod.ext (GW w os) rfl)
end
end
end
noncomputable def W2 (w:World) (b1 b2:Bool):World:=⟨w.draws,{w.params with followText:=fun s=>@Bool.rec (fun _=>Bool) (@Bool.rec (fun _=>Bool) (w.params.followText s) b2 (s=="comprehension-iter-twice")) b1 (s=="special-get-raises")}⟩
theorem yW (w:World):W2 w (w.params.followText "special-get-raises") (w.params.followText "comprehension-iter-twice")=w:=by
 obtain ⟨dr,P⟩:=w
 unfold W2
 congr 1
 have h:(fun s=>@Bool.rec (fun _=>Bool) (@Bool.rec (fun _=>Bool) (P.followText s) (P.followText "comprehension-iter-twice") (s=="comprehension-iter-twice")) (P.followText "special-get-raises") (s=="special-get-raises"))=P.followText:=by
  funext s
  cases h1:s=="special-get-raises" with
  | true=>rw [eq_of_beq h1]
  | false=>
   cases h2:s=="comprehension-iter-twice" with
   | true=>rw [eq_of_beq h2]
   | false=>rfl
 simp only [h]
noncomputable def E2 (w:World):En:=⟨pw,w,gb w.params,[975],AllBare,true,none,oS⟩
noncomputable def ah (d:Nat) (es:Array DictEntry) (ep:Nat):Obj:=⟨.ref 1093,some d,.dict es ep,#[]⟩
noncomputable def av:Obj:=⟨.type "dict",none,.dict #[] 0,#[]⟩
noncomputable def au (es:Array DictEntry) (ep:Nat):Obj:=⟨.type "dict",none,.dict es ep,#[]⟩
noncomputable def eW (w:World) (a:Nat):FuncData:=match (gb w.params).get a with | some o=>(match o.data with | .func fd=>fd | _=>default) | none=>default
noncomputable def dQ (fd:FuncData):List Stmt:=match fd.body with | .stmts l=>l | _=>[]
noncomputable def b6 (w:World) (f l:Nat):Env:={scope:=(eW w f).scope,locals:=l,globals:=3,qual:=(eW w f).qualname++".<locals>.",code:=(eW w f).code,func:=some f,frame:=some l,cells:=(eW w f).closure,builtins:=0}
noncomputable def ai (w:World) (f k:Nat):Stmt:=(dQ (eW w f)).getD k (.Pass ⟨0,0,0,0⟩)
noncomputable def cn:Stmt->Expr | .For t _ _ _ _=>t | _=>default
noncomputable def nh:Stmt->Expr | .For _ i _ _ _=>i | _=>default
noncomputable def bj:Stmt->List Stmt | .For _ _ b _ _=>b | _=>[]
noncomputable def iw:Stmt->List Stmt | .For _ _ _ e _=>e | _=>[]
noncomputable def ax (s:Stmt) (it:Nat) (env:Env):Code:=.forLoop (cn s) (.ref it) (bj s) (iw s) env
noncomputable def az (w:World) (f k i:Nat):Stmt:=(bj (ai w f k)).getD i (.Pass ⟨0,0,0,0⟩)
noncomputable def ak (w:World) (x:Str) (t:Tok) (v:Value):DictEntry:=⟨PyData.keyHash w.params x,.str x t,v⟩
noncomputable def aN (es:List DictEntry) (ep:Nat):Obj:=⟨.type "frame",none,.dict es.toArray ep,#[]⟩
noncomputable def nm (l:List Nat):Str:=⟨⟨l⟩⟩
noncomputable def bG:Str:=sZ 0x666c6573
noncomputable def br:Str:=sZ 0x726568746f
noncomputable def cZ:Str:=sZ 0x746c75736572
noncomputable def bY:Str:=sZ 0x6d656c65
noncomputable def c5:Str:=sZ 0x746e756f63
noncomputable def cz:Str:=sZ 0x746e756f635f726568746f
noncomputable def ft:Str:=sZ 0x746e756f6377656e
noncomputable def fB (s:Stmt) (i:Nat):Stmt:=match s with | .If _ b _ _=>b.getD i (.Pass ⟨0,0,0,0⟩) | _=>.Pass ⟨0,0,0,0⟩
noncomputable def cE:Str:=sZ 0x656c626172657469
noncomputable def fJ:Str:=sZ 0x7364776b
noncomputable def cF:Str:=sZ 0x7465675f666c6573
noncomputable def rK:Str:=sZ 0x79656b
noncomputable def aT:Str:=sZ 0x747069726373
noncomputable def bh:Str:=sZ 0x73656c626174
noncomputable def cG:Str:=sZ 0x6563616c70
noncomputable def DZ:Str:=sZ 0x73676162
noncomputable def uZ:Str:=sZ 0x736e6f696e75
noncomputable def yX:Str:=sZ 0x737465656d
noncomputable def eD:Str:=sZ 0x6e6f696e75
noncomputable def fK:Str:=sZ 0x7465656d
noncomputable def u0:Str:=sZ 0x6563696f6863
noncomputable def el:Str:=sZ 0x6e65736f6863
noncomputable def dK:Str:=sZ 0x676162
noncomputable def fO:Str:=sZ 0x73726568746f
noncomputable def jF:Str:=sZ 0x68676968
noncomputable def l9:Str:=sZ 0x776f6c
noncomputable def cH:Str:=sZ 0x656c626174
noncomputable def qj:Str:=sZ 0x7372696170
noncomputable def GY:Str:=sZ 0x656e6f
noncomputable def GZ:Str:=sZ 0x657564
noncomputable def jG:Str:=sZ 0x72696170
noncomputable def qk:Str:=sZ 0x63
noncomputable def yY:Str:=sZ 0x65
noncomputable def yZ (v:Value):Sem Fin:=R.bindR (Fast.tw6336627204499452618 v) fun x=>.pure (.done (.ret (.bool x)))
noncomputable def D0 (v:Value):Sem Fin:=R.bindR (Fast.tw18250491105767826471 v (nm [107,101,121,115])) fun x=>.pure (.done (.ret (.bool x.isSome)))
noncomputable abbrev Pw (w:World) (b1 b2:Bool) (d:Drawn) (os:OsState) (K:Nat) (Γ:Ctx) (t:Sem Fin) (m:Mm) (n tk:Nat) (T:TE (E2 (W2 w b1 b2)) d os PE):Prop:=dW.ok ⟨E2 (W2 w b1 b2),K,Γ,t,m,n,tk,T⟩
section
variable (w:World) (b1 b2 c:Bool) (d:Drawn) (os:OsState)
noncomputable def Qb (P:Bool->Bool->dW d os):Prop:=(P b1 b2).ok
noncomputable def Qc (P:Bool->Bool->Bool->dW d os):Prop:=(P b1 b2 c).ok
variable {d os} in
noncomputable def bW (P:World->dW d os) (b1 b2:Bool):dW d os:=P (W2 w b1 b2)
variable {d os} in
noncomputable def bV (P:World->Bool->dW d os) (b1 b2 c:Bool):dW d os:=P (W2 w b1 b2) c
noncomputable abbrev Qw (P:World->dW d os):Prop:=Qb b1 b2 d os (bW w P)
noncomputable abbrev Qv (P:World->Bool->dW d os):Prop:=Qc b1 b2 c d os (bV w P)
variable {d os} (P:Bool->Bool->dW d os) (P1:Bool->Bool->Bool->dW d os) (f0:Nat) (c6:List Nat) (cI:List (List Nat)) (n0:List Nat) (f1:Nat) (iT:List Nat) (kS:List (List Nat)) (n1:List Nat)
noncomputable def lB:=DE (fun b=>P b b2) f0 c6 cI n0
noncomputable def rB:=DF (fun b=>P b b2) f0 c6 cI n0
noncomputable def lC:=GH (fun c b=>P1 b b2 c) f0 c6 cI n0
noncomputable def rC:=GI (fun c b=>P1 b b2 c) f0 c6 cI n0
variable {b1 b2 c P P1}
theorem bU (H:lB b2 P f0 c6 cI n0=rB b2 P f0 c6 cI n0) (eg:∀ x y,(P x y).E.nb=true:=by intros;rfl):Qb b1 b2 d os P:=GF (P:=fun b=>P b b2) f0 c6 cI n0 H (fun _=>eg _ _) b1
theorem b7 (H:lC b2 P1 f0 c6 cI n0=rC b2 P1 f0 c6 cI n0) (eg:∀ x y c,(P1 x y c).E.nb=true:=by intros;rfl):Qc b1 b2 c d os P1:=GJ (P:=fun c b=>P1 b b2 c) f0 c6 cI n0 H (fun _ _=>eg _ _ _) c b1
theorem nX (H:(lB false P f0 c6 cI n0,lB true P f1 iT kS n1)=(rB false P f0 c6 cI n0,rB true P f1 iT kS n1)) (eg:∀ x y,(P x y).E.nb=true:=by intros;rfl):Qb b1 b2 d os P:=by
 obtain ⟨h1,h2⟩:=Prod.ext_iff.mp H
 cases b2
 ·exact bU f0 c6 cI n0 h1 eg
 ·exact bU f1 iT kS n1 h2 eg
theorem u7 (H:(lC false P1 f0 c6 cI n0,lC true P1 f1 iT kS n1)=(rC false P1 f0 c6 cI n0,rC true P1 f1 iT kS n1)) (eg:∀ x y c,(P1 x y c).E.nb=true:=by intros;rfl):Qc b1 b2 c d os P1:=by
 obtain ⟨h1,h2⟩:=Prod.ext_iff.mp H
 cases b2
 ·exact b7 f0 c6 cI n0 h1 eg
 ·exact b7 f1 iT kS n1 h2 eg
end
section
variable {N dd di ep i ii n tk:Nat}{aA it ok ov v:Value}{es:Array DictEntry}{g:Array GenState}{h:Heap}{m:Mm}{od:Obj}{p:Pos}{Γ:Ctx}
noncomputable def gE (e gx : Expr) (g : Comprehension) (it aA v : Value) (env : Env) : Sem Fin :=
  (do assign g.target env v
      let mut ok := true
      for c in g.ifs do
        if ok then ok <- isTrue c env (eval c env)
      if ok then
        (do let _ <- call (.builtin "list.append") [aA, <- eval gx env]
            pure () : Sem Unit)
        again (.compLoop e 0 it aA env)
      else again (.compLoop e 0 it aA env) : Sem Fin).onRaise (fun x => do noteFrame x env; theTreesLotGoes x)
theorem nY {M:Model}{e gx:Expr}{g:Comprehension}{env:Env}{Q:Fin->Pos->Shared->Prop}{E:Value->Pos->Shared->Prop}{s:Shared}
  (h:wp M Γ (letOwnedTupleGo g.target it v) (fun _ p s=>wp M Γ (gE e gx g it aA v env) Q E p s) (fun _ _ _=>False) p s):
  wp M Γ (gw e gx g it aA v env) Q E p s:=by
 unfold gw
 unfold gE at h
 simp only [Sem.wp_onRaise,Sem.wp_bind'] at h ⊢
 exact Sem.wp_mono M Γ _ (fun _ p' s' h=>h) (fun _ _ _ h=>h.elim) _ _ h
noncomputable def ja (e gx:Expr) (g:Comprehension) (it aA v:Value) (env:Env):Sem Fin:=
 R.onRaiseR (R.bindR (Fast.tw17772580674575903948 g.target env v) fun _=>R.bindR (iF env g.ifs true) fun ok=>
   @Bool.rec (fun _=>Sem Fin) (.pure (.again (.compLoop e 0 it aA env))) (R.bindR (Fast.tw14044960220447912780 gx env) fun x=>R.bindR (Fast.tw11478286150595567475 (.builtin "list.append") [aA,x] []) fun _=>.pure (.again (.compLoop e 0 it aA env))) ok)
  fun x=>R.bindR (Fast.tw17872113653443481271 x env) fun _=>Fast.tw1623429502029203251 x
theorem mL {M:Model}{e gx:Expr}{g:Comprehension}{env:Env}{Q:Fin->Pos->Shared->Prop}{E:Value->Pos->Shared->Prop}{s:Shared}
  (h:wp M Γ (ja e gx g it aA v env) Q E p s):wp M Γ (gE e gx g it aA v env) Q E p s:=by
 unfold ja at h
 rw [<- R.bindR_eq,<- R.onRaiseR_eq,<- Fast.te17772580674575903948,<- Fast.te14044960220447912780,<- Fast.te11478286150595567475,<- Fast.te17872113653443481271,<- Fast.te1623429502029203251] at h
 unfold gE
 rw [Sem.wp_onRaise] at h ⊢
 have b (α β:Type) (m:Sem α) (f:α->Sem β):m.bind f=m>>=f:=rfl
 simp only [b,Sem.wp_bind'] at h ⊢
 refine Sem.wp_mono M Γ _ (fun _ p' s' h=>?_) (fun _ _ _ h=>h) _ _ h
 refine nJ _ _ _ _ _ ?_
 rw [jv]
 refine Sem.wp_mono M Γ _ (fun ok p' s' h=>?_) (fun _ _ _ h=>h) _ _ h
 cases ok with
 | true=>
  simp only [Sem.wp_bind',if_true] at h ⊢
  exact h
 | false=>exact h
noncomputable def hX:Stmt->Expr | .Assign _ v _=>v | _=>default
noncomputable def nZ:Expr->Expr | .ListComp e _ _ _=>e | _=>default
noncomputable def gU:Expr->Comprehension | .ListComp _ gs _ _=>gs.getD 0 default | _=>default
noncomputable def FV:Expr->Scope | .ListComp _ _ sc _=>sc | _=>default
noncomputable def G0:Expr->Pos | .ListComp _ _ _ p=>p | _=>default
noncomputable def D1 (e:Expr):Expr:=.ListComp (nZ e) [gU e] (FV e) (G0 e)
noncomputable def bo (e:Expr) (env:Env) (Mt:Nat):Env:={scope:=FV e,locals:=Mt,globals:=env.globals,cells:=[],qual:=env.qual,func:=none,code:=env.code,frame:=env.frame,builtins:=env.builtins}
noncomputable def bq (e:Expr) (it aA:Nat) (env:Env):Code:=.compLoop (D1 e) 0 (.ref it) (.ref aA) env
noncomputable def rL (e:Expr) (it aA:Nat) (v:Value) (env:Env):Sem Fin:=ja (D1 e) (nZ e) (gU e) (.ref it) (.ref aA) v env
section
variable {E:En}{h₀:Heap}{Y:Nat}{d:Drawn}{os:OsState}
theorem n3 {ex:Expr}{env:Env}{R:Result->Shared->Prop}{aA:Nat}{it:Nat}{e:DictEntry}
  (aV:Γ.code=bq ex it aA env) (GK:i6 (gU ex).target) (ha:((gU ex).is_async != 0)=false) (hg:E.G g) (hr:ag E h₀ Y m n h) (h1:ad m ii=some (it,cy dd i N ep .none ok ov)) (h2:ad m di=some (dd,od)) (hd:od.data=.dict es ep) (hN:es.size=N)
  (hx:es[i]?=some e)
  (w:∀ p,am E h₀ Y R d os ⟨Γ,p,[],rL ex it aA (.ref n) env,d7 (cg m ii (cy dd (i+1) N ep .none e.key e.val)) (n,de e.key e.val),n+1,tk⟩) (p:Pos):
  wpCode (Mo E) Γ R p ⟨h,g,d,tk,os⟩:=by
 refine (wpCode_iff_wp _ _ _ _ _).mpr ?_
 rw [aV]
 refine oW ha rfl ?_
 have hit:IsItemIter h it dd i N ep ok ov:=hr.own _ _ _ h1
 have eM:=hr.own _ _ _ h2
 refine Sem.wp_mono (Mo E) Γ _ (fun a p' s' h'=>?_) (fun e p' s' h'=>h') _ _ (bm (Q:=fun o s'=>o=some (.ref h.objs.size)/\∀ p,wp (Mo E) Γ (gw (D1 ex) (nZ ex) (gU ex) (.ref it) (.ref aA) (.ref h.objs.size) env) (finPost (Mo E) Γ R) (fun e _ s'=>R (.error e) s') p s') (E:=fun _ _=>False) ?_ _)
 ·obtain ⟨rfl,h'⟩:=h';exact h' p'
 refine e8 hit eM hd hN hx fun h' he Mu hs same=>⟨rfl,fun p=>?_⟩
 refine nY ?_
 refine Sem.wp_mono _ _ _ (fun a p' s' h'=>h' p') (fun e p' s' h'=>h') _ _ (bm (Q:=fun _ s'=>∀ p,wp (Mo E) Γ (gE (D1 ex) (nZ ex) (gU ex) (.ref it) (.ref aA) (.ref h.objs.size) env) (finPost (Mo E) Γ R) (fun e _ s'=>R (.error e) s') p s') (E:=fun _ _=>False) ?_ p)
 rw [GK _ _]
 refine wpAny_letOwnedTupleGo_items (he:IsItemIterOut h' it dd (i+1) N ep e.key e.val h.objs.size) fun h2 um rn p=>?_
 rw [hr.size] at *
 have r1:ag E h₀ Y (cg m ii (cy dd (i+1) N ep .none e.key e.val)) (n+1) h2:=by
  refine hr.chg h1 um (rn.1.trans hs) (Nat.le_succ _) fun b x hb hx=>(rn.2 b hb).trans (same b x hb hx)
 have ww:n≠it:=fun q=>Nat.lt_irrefl _ (q▸hr.lt h1)
 have r2:=r1.know (b:=n) (o:=de e.key e.val) ((rn.2 n ww).trans Mu) hr.start (fun i o' q=>by
  rw [dg] at q
  split at q
  ·rw [h1] at q;cases q;exact ww rfl
  ·exact Nat.lt_irrefl _ (hr.lt q)) (hr.lowT n (Nat.le_refl _))
 exact mL (w p h2 g hg r2)
theorem ql {ex:Expr}{env:Env}{R:Result->Shared->Prop}{aA:Nat}{it:Nat}
  (aV:Γ.code=bq ex it aA env) (ha:((gU ex).is_async != 0)=false) (hh:Γ.handled=none) (hg:E.G g) (hr:ag E h₀ Y m n h) (h1:ad m ii=some (it,cy dd i N ep .none ok ov)) (h2:ad m di=some (dd,od)) (hd:od.data=.dict es ep) (hN:es.size=N) (hx:N<=i)
  (fin:∀ h' n' o',n<=n'->ag E h₀ Y (cg m ii o') n' h'->R (.ok .next) ⟨h',g,d,tk,os⟩) (p:Pos):wpCode (Mo E) Γ R p ⟨h,g,d,tk,os⟩:=by
 refine (wpCode_iff_wp _ _ _ _ _).mpr ?_
 rw [aV]
 refine oW ha rfl ?_
 have hit:IsItemIter h it dd i N ep ok ov:=hr.own _ _ _ h1
 have eM:=hr.own _ _ _ h2
 refine Sem.wp_mono (Mo E) Γ _ (fun a p' s' h'=>?_) (fun e p' s' h'=>h'.elim) _ _ (bm (Q:=fun o s'=>o=none/\R (.ok .next) s') (E:=fun _ _=>False)
  (hO (A:=dk Γ) hh hit eM hd hN hx fun h' o' wv he hs=>⟨rfl,fin h' h'.objs.size o' (hr.size▸hs) (hr.chg h1 wv rfl (hr.size▸hs) fun b x hb hx=>he b x hb hx)⟩) _)
 obtain ⟨rfl,h'⟩:=h'
 exact h'
end
end
noncomputable def GR (M:Model) (base:Ctx) (fs:List PySem.Frame) (Φ:End->Shared->Prop) (t:Sem Fin) (p:Pos) (s:Shared):Prop:=∃ e s',Runs M base p t fs s e s'/\Φ e s'
noncomputable def G1 (M:Model) (base:Ctx) (fs:List PySem.Frame) (Φ:End->Shared->Prop):lw M false where
 B Γ t p s:=Γ=(base.goto Γ.code).over fs->GR M (base.goto Γ.code) fs Φ t p s
 rule h e:=let ⟨x,s',r,q⟩:=h e;⟨x,s',Runs.head' (fun _ _ y=>.rule y) r,q⟩
 point h e:=let ⟨x,s',r,q⟩:=h e;⟨x,s',Runs.head' (fun _ _ y=>.point y) r,q⟩
 at_ h e:=let ⟨x,s',r,q⟩:=h e;⟨x,s',Runs.head' (fun _ _ y=>.at y) r,q⟩
 ask h e:=let ⟨x,s',r,q⟩:=h e;⟨x,s',Runs.head' (fun _ _ y=>.ask y) r,q⟩
 fresh h e:=let ⟨x,s',r,q⟩:=h e;⟨x,s',Runs.head' (fun _ _ y=>.fresh y) r,q⟩
 handled {Γ own k p s} h e:=let ⟨x,s',r,q⟩:=h e;⟨x,s',Runs.head' (fun _ _ y=>by rw [<- e] at y ⊢;exact .handled y) r,q⟩
 stack {Γ k p s} h e:=let ⟨x,s',r,q⟩:=h e;⟨x,s',Runs.head' (fun _ _ y=>by rw [<- e] at y ⊢;exact .stack y) r,q⟩
 thread h e:=let ⟨x,s',r,q⟩:=h e;⟨x,s',Runs.head' (fun _ _ y=>.thread y) r,q⟩
 load ho h e:=let ⟨x,s',r,q⟩:=h e;⟨x,s',Runs.head' (fun _ _ y=>.load ho y) r,q⟩
 loadIfAlive h e:=let ⟨x,s',r,q⟩:=h e;⟨x,s',Runs.head' (fun _ _ y=>.loadIfAlive y) r,q⟩
 update ho h e:=let ⟨x,s',r,q⟩:=h e;⟨x,s',Runs.head' (fun _ _ y=>.update ho y) r,q⟩
 genState hs h e:=let ⟨x,s',r,q⟩:=h e;⟨x,s',Runs.head' (fun _ _ y=>.genState hs y) r,q⟩
 alloc h e:=let ⟨x,s',r,q⟩:=h e;⟨x,s',Runs.head' (fun _ _ y=>.alloc y) r,q⟩
 call {Γ c h g l k p s} hw e:=by
  obtain ⟨r,bF,Jt,hw⟩:=hw
  obtain ⟨x,s',r',q⟩:=hw e
  exact ⟨x,s',Runs.head' (fun _ _ y=>by rw [<- e] at y ⊢;exact .call Jt y) r',q⟩
 again {Γ c p s} hq h e:=by
  have e2:Γ.goto c=(base.goto c).over fs:=by rw [e];rfl
  obtain ⟨x,s',r,q⟩:=h e2
  exact ⟨x,s',Runs.head (c₁:=c) (fun _ _ y=>.again hq y) r,q⟩
 sup h:=nomatch h
section
variable {M:Model}{base:Ctx}{fs:List PySem.Frame}{Φ:End->Shared->Prop}{p:Pos}{s:Shared}
theorem GR.again {c:Code}(hq:c.quiet=true) (h:GR M (base.goto c) fs Φ (M.den c) p s):GR M base fs Φ (.pure (.again c)) p s:=
 let ⟨x,s',r,q⟩:=h;⟨x,s',Runs.head (c₁:=c) (fun _ _ y=>.again hq y) r,q⟩
theorem GR.call {c:Code}{hd:Option Value}{gd:Bool}{l:List Value}{k:Result->Sem Fin}(h:GR M (base.goto c) (.ret k hd gd l base.code p []::fs) Φ (M.den c) p s):GR M base fs Φ (.call c hd gd l k) p s:=
 let ⟨x,s',r,q⟩:=h;⟨x,s',runs_call_seg r,q⟩
theorem GR.pop {k:Result->Sem Fin}{hd:Option Value}{gd:Bool}{l:List Value}{c₁:Code}{FW:Pos}{kp:List Value}(r:Result) (h:GR M (base.goto c₁) fs Φ (k r) FW s):GR M base (.ret k hd gd l c₁ FW kp::fs) Φ (leafOf r) p s:=
 let ⟨x,s',y,q⟩:=h;⟨x,s',Runs.pop r y,q⟩
theorem GR.yield {v:Value}{gd:Bool}{l:List Value}{k:Resume->Sem Fin}(dX:splitAtGen fs=none) (h:Φ (.susp v gd l k base.code p fs) s):GR M base fs Φ (.yield v gd l k) p s:=
 ⟨_,s,Runs.yield' fs dX,h⟩
theorem GR.done {f:Flow}(h:Φ (.ret (.ok f)) s):GR M base [] Φ (.pure (.done f)) p s:=⟨_,s,.done,h⟩
end
inductive fW
 | done (f:Flow)
 | again (c:Code)
 | call (c:Code) (h:Option Value) (gd:Bool)
 | yield (v:Value) (gd:Bool)
 | other
inductive jb:Sem Fin->fW->Prop
 | done (f:Flow):jb (.pure (.done f)) (.done f)
 | again (c:Code):jb (.pure (.again c)) (.again c)
 | call (c:Code) (h:Option Value) (gd:Bool) (l:List Value) (k:Result->Sem Fin):jb (.call c h gd l k) (.call c h gd)
 | yield (v:Value) (gd:Bool) (l:List Value) (k:Resume->Sem Fin):jb (.yield v gd l k) (.yield v gd)
 | other (t:Sem Fin):jb t .other
noncomputable def y0:(t:Sem Fin)->{g:fW // jb t g}
 | .pure (.done f)=>⟨.done f,.done f⟩
 | .pure (.again c)=>⟨.again c,.again c⟩
 | .call c h gd l k=>⟨.call c h gd,.call c h gd l k⟩
 | .yield v gd l k=>⟨.yield v gd,.yield v gd l k⟩
 | t=>⟨.other,.other t⟩
noncomputable def dB (t:Sem Fin):fW:=(y0 t).1
theorem gh {t:Sem Fin}{g:fW}(h:dB t=g):jb t g:=h▸(y0 t).2
noncomputable def gV:Sem Fin->Sem Fin
 | .yield _ _ _ k=>k (.send .none)
 | .call _ _ _ _ k=>k (.ok .next)
 | t=>t
theorem G2 {t:Sem Fin}{f:Flow}(h:dB t=.done f):t=.pure (.done f):=by
 cases gh h;rfl
theorem em {t:Sem Fin}{c:Code}(h:dB t=.again c):t=.pure (.again c):=by
 cases gh h;rfl
theorem G3 {t:Sem Fin}{c c':Code}{hd:Option Value}{gd:Bool}(h:dB t=.call c hd gd) (h2:dB (gV t)=.again c'):∃ l k,t=.call c hd gd l k/\k (.ok .next)=.pure (.again c'):=by
 cases gh h
 exact ⟨_,_,rfl,em h2⟩
theorem FX {t:Sem Fin}{v:Value}{gd:Bool}{c':Code}(h:dB t=.yield v gd) (h2:dB (gV t)=.again c'):∃ l k,t=.yield v gd l k/\k (.send .none)=.pure (.again c'):=by
 cases gh h
 exact ⟨_,_,rfl,em h2⟩
noncomputable def G4 (keep:List Nat) (o:Out):Ctx×Nat×fW×fW×Mm×Nat×Nat:=(o.c.Γ,o.c.κ.length,dB o.c.t,dB (gV o.c.t),sel o.c.m keep,o.c.n,o.c.tk)
section
variable {E:En}{d:Drawn}{os:OsState}{h₀:Heap}{Y:Nat}{base:Ctx}{fs:List PySem.Frame}{Φ:End->Shared->Prop}
theorem u8 (eg:E.nb=false) {o:Out}{Γ:Ctx}{keep:List Nat}{K:Nat}{t t2:fW}{m:Mm}{n tk:Nat}(e:G4 keep o=(Γ,0,t,t2,m,n,tk)) (hk:Y<=K) (nd:keep.Nodup) (pre:keep.take K=List.range K) (hl:aE m=keep.length)
  (fin:∀ tr p h g,E.G g->ag E h₀ Y m n h->dB tr=t->dB (gV tr)=t2->GR (Mo E) (base.goto Γ.code) fs Φ tr p ⟨h,g,d,tk,os⟩):fQ E h₀ Y (eg▸G1 (Mo E) base fs Φ) d os o.c:=by
 obtain ⟨prog,w,T,mu,G,nb,gs,hgs⟩:=E
 cases eg
 obtain ⟨⟨LQ,p,κ,t',m',n',aF⟩,L,R',A⟩:=o
 unfold G4 at e
 simp only [Prod.mk.injEq] at e
 obtain ⟨e1,e2,e3,Mv,e4,e5,e6⟩:=e
 dsimp only at fin
 subst e1 e4 e5 e6
 obtain rfl:=List.length_eq_zero_iff.mp e2
 intro h g hg hr
 have aJ:=hr.pick keep K nd pre hk hl
 exact fun _=>fin t' p h g hg aJ e3 Mv
end
section
variable {E:En}{d:Drawn}{os:OsState}{ε τ:Type}(h₀:Heap) (Y:Nat) (F:ε->Prop) (fo:ε->Out->τ) (fe:ε->τ) (c:eL) (fuel:Nat) (hs:List Nat)
variable {h₀ Y F fo fe c fuel hs}
end
section
variable {E:En}{d:Drawn}{os:OsState}{h₀:Heap}{Y:Nat}{R:Result->Shared->Prop}{Γ:Ctx}
end
section
variable {d:Drawn}{os:OsState}
end
theorem bO (w:World) (dc rp:Nat) (rs:Array DictEntry):gP (E2 w) (ah dc rs rp):=.inr ⟨1093,rfl,by kernel_rfl,rfl⟩
theorem dL (w:World) (rp:Nat) (rs:Array DictEntry):gP (E2 w) (au rs rp):=.inl rfl
noncomputable def Ju:Stmt->Expr | .Return v _=>v.getD default | _=>default
noncomputable def y6 (e:Expr) (i:Nat):Expr:=match e with | .Call _ as _ _=>as.getD i default | _=>default
noncomputable def D2:Expr->Scope | .GeneratorExp _ _ sc _=>sc | _=>default
noncomputable def qm (w:World):Expr:=y6 (Ju (ai w 980 1)) 0
noncomputable def gi (w:World) (C cs co cd:Nat):Env:={scope:=D2 (qm w),locals:=C,globals:=3,cells:=[(bG,cs),(br,co)],qual:=(eW w 980).qualname++".<locals>.<genexpr>.",func:=none,code:=.ref cd,frame:=some C,builtins:=0}
noncomputable def qn (w:World) (it:Nat) (en:Env):Code:=.compStart (qm w) 0 (.ref it) .none en
noncomputable def fC (w:World) (it:Nat) (en:Env):Code:=.compLoop (qm w) 0 (.ref it) .none en
noncomputable def rM (w:World) (it:Nat) (en:Env):Code:=.compStart (qm w) 1 (.ref it) .none en
noncomputable def gF (w:World) (it:Nat) (en:Env):Code:=.compLoop (qm w) 1 (.ref it) .none en
noncomputable abbrev Eg (w:World) (gn:Nat):En:=⟨pw,w,gb w.params,[975],fun a=>AllBare a/\gn < a.size,false,none,oS⟩
noncomputable def GN (g:Nat):Code:=.builtin "generator.__next__" ⟨[.ref g],[]⟩
noncomputable def AL (g:Nat):Code:=.builtin "all.loop" ⟨[.ref g],[]⟩
noncomputable def iU (b:Bool) (fe:FN) (pe:Pos) (f1:FL) (p1:Pos) (f2:FN) (p2 p3:Pos):List (Code×Pos):=@Bool.rec (fun _=>List (Code×Pos)) [(fl f1,p1),(fn f2,p2),(CC,p3)] [(fn fe,pe),(fl f1,p1),(fn f2,p2),(CC,p3)] b
noncomputable def jc (t i:Nat):Obj:=⟨.type "tuple_iterator",none,.fields #[.ref t,.int i 0],#[]⟩
noncomputable def eG (v:Value):Obj:=⟨.type "cell",none,.cell (some v),#[]⟩
noncomputable def ma:Str:=sZ 0x302e
structure GE where
 t:fW
 t2:fW
 m:Mm
 n:Nat
 tk:Nat
structure mM (d:Drawn) (os:OsState) where
 W:World
 gn:Nat
 K:Nat
 Γ₀:Ctx
 Γ:Ctx
 t₀:Sem PySem.Fin
 m₀:Mm
 n₀:Nat
 tk₀:Nat
 T:TE (Eg W gn) d os GE
section
variable {d:Drawn}{os:OsState}{h₀:Heap}{Y:Nat}{base:Ctx}{fs:List PySem.Frame}{Φ:End->Shared->Prop}{W:World}{gn:Nat}{Γ:Ctx}
noncomputable def GE.fin (W:World) (gn:Nat) (d:Drawn) (os:OsState) (h₀:Heap) (Y:Nat) (base:Ctx) (fs:List PySem.Frame) (Φ:End->Shared->Prop) (Γ:Ctx) (x:GE):Prop:=
 ∀ tr p h g,AllBare g/\gn < g.size->ag (Eg W gn) h₀ Y x.m x.n h->dB tr=x.t->dB (gV tr)=x.t2->GR (Mo (Eg W gn)) (base.goto Γ.code) fs Φ tr p ⟨h,g,d,x.tk,os⟩
noncomputable def Jv (K:Nat) (new:List Nat) (x:GE) (o:Out):Bool×Nat×Ctx×Nat×fW×fW×Mm×Nat×Nat:=(i0 K new,aE x.m,G4 (List.range K++new) o)
noncomputable def Jw (K:Nat) (new:List Nat) (Γ:Ctx) (x:GE):Bool×Nat×Ctx×Nat×fW×fW×Mm×Nat×Nat:=(true,K+new.length,Γ,0,x.t,x.t2,x.m,x.n,x.tk)
theorem D3 {K:Nat}{new:List Nat}(hk:Y<=K) (x:GE) (o:Out) (H:Jv K new x o=Jw K new Γ x) (F:x.fin W gn d os h₀ Y base fs Φ Γ):fQ (Eg W gn) h₀ Y (G1 (Mo (Eg W gn)) base fs Φ) d os o.c:=by
 have e5:aE x.m=K+new.length:=congrArg (·.2.1) H
 obtain ⟨h1,h2,h3⟩:=sJ (congrArg (·.1) H:i0 K new=true)
 exact u8 (E:=Eg W gn) rfl (congrArg (·.2.2) H) hk h1 h2 (e5.trans h3.symm) F
noncomputable def mM.ok:mM d os->Prop
 | ⟨W,gn,K,Γ₀,Γ,t₀,m₀,n₀,tk₀,T⟩=>∀ ⦃h₀:Heap⦄ ⦃Y:Nat⦄ ⦃base:Ctx⦄ ⦃frs:List PySem.Frame⦄ ⦃Φ:End->Shared->Prop⦄ (aI:Pos) (_:Γ₀=(base.goto Γ₀.code).over frs) (_:Y<=K) (_:T.fin h₀ Y (GE.fin W gn d os h₀ Y base frs Φ Γ)),
  ∀ h g,AllBare g/\gn < g.size->ag (Eg W gn) h₀ Y m₀ n₀ h->GR (Mo (Eg W gn)) (base.goto Γ₀.code) frs Φ t₀ aI ⟨h,g,d,tk₀,os⟩
noncomputable def mM.OF (P:mM d os):Type:=Pos->P.T.O (Bool×Nat×Ctx×Nat×fW×fW×Mm×Nat×Nat) Unit
variable (P:mM d os) (Q:Bool->Bool->mM d os) (S:Bool->Bool->Bool->mM d os) (f0:Nat) (c6:List Nat) (cI:List (List Nat)) (n0:List Nat) (f1:Nat) (iT:List Nat) (kS:List (List Nat)) (n1:List Nat)
noncomputable def mM.lf:P.OF:=fun p=>P.T.lhs (Jv P.K n0) ⟨P.Γ₀,p,[],P.t₀,P.m₀,P.n₀,P.tk₀⟩ f0 c6 cI [] Unit (fun _=>()) 0
noncomputable def mM.rf:P.OF:=fun p=>P.T.rhs (Jw P.K n0 P.Γ) ⟨P.Γ₀,p,[],P.t₀,P.m₀,P.n₀,P.tk₀⟩ f0 c6 cI [] Unit () 0
noncomputable def OG:Type:=((Q true true).OF×(Q true false).OF)×(Q false true).OF×(Q false false).OF
noncomputable def lG:OG Q:=(((Q true true).lf f0 c6 cI n0,(Q true false).lf f0 c6 cI n0),(Q false true).lf f0 c6 cI n0,(Q false false).lf f0 c6 cI n0)
noncomputable def rG:OG Q:=(((Q true true).rf f0 c6 cI n0,(Q true false).rf f0 c6 cI n0),(Q false true).rf f0 c6 cI n0,(Q false false).rf f0 c6 cI n0)
noncomputable def Mw:OG (fun b1 bb=>S b1 false bb)×OG (fun b1 bb=>S b1 true bb):=(lG _ f0 c6 cI n0,lG _ f1 iT kS n1)
noncomputable def Mx:OG (fun b1 bb=>S b1 false bb)×OG (fun b1 bb=>S b1 true bb):=(rG _ f0 c6 cI n0,rG _ f1 iT kS n1)
variable {P Q S}
theorem pg (H:P.lf f0 c6 cI n0=P.rf f0 c6 cI n0):P.ok:=by
 obtain ⟨W,gn,K,Γ₀,Γ,t₀,m₀,n₀,tk₀,T⟩:=P
 intro h₀ Y base frs Φ aI hb hk F h g hg hr
 exact kn (E:=Eg W gn) (B:=G1 (Mo (Eg W gn)) base frs Φ) f0 (T.tel cI) c6 ⟨Γ₀,aI,[],t₀,m₀,n₀,tk₀⟩ (ir T cI (congrFun H aI) fun o _ _=>trivial) (TE.valid _ _ _ T cI F) (jy (D3 hk) T cI (congrFun H aI) F) h g hg hr hb
theorem Jx (H:lG Q f0 c6 cI n0=rG Q f0 c6 cI n0) (x y:Bool):(Q x y).ok:=by
 cases x<;>cases y
 ·exact pg f0 c6 cI n0 (congrArg (·.2.2) H)
 ·exact pg f0 c6 cI n0 (congrArg (·.2.1) H)
 ·exact pg f0 c6 cI n0 (congrArg (·.1.2) H)
 ·exact pg f0 c6 cI n0 (congrArg (·.1.1) H)
noncomputable def Qg (b1 b2 bb:Bool) (d:Drawn) (os:OsState) (S:Bool->Bool->Bool->mM d os):Prop:=(S b1 b2 bb).ok
theorem jd {b1 b2 bb:Bool}(H:Mw S f0 c6 cI n0 f1 iT kS n1=Mx S f0 c6 cI n0 f1 iT kS n1):Qg b1 b2 bb d os S:=by
 cases b2
 ·exact Jx (Q:=fun b1 bb=>S b1 false bb) f0 c6 cI n0 (congrArg (·.1) H) b1 bb
 ·exact Jx (Q:=fun b1 bb=>S b1 true bb) f1 iT kS n1 (congrArg (·.2) H) b1 bb
end
section
variable {C G a b cd co cs da db e0 ep fp gn i it1 j k0 k1 m0 m1 m2 t1 tit tk tup tx ty:Nat}{b1 b2 bb:Bool}{d:Drawn}{es fs:Array DictEntry}{f0 f2 fe:FN}{f1:FL}{kv x y:Int}{p0 p1 p2 p3 pF pa pe pg:Pos}{vv:Value}{w:World}
noncomputable abbrev Aa:=fun a=>(.ref (a+1109):Value)
noncomputable abbrev Ai:=fun a b c d e f g=>gi (W2 a b c) (d+1109) (e+1109) (f+1109) (g+1109)
noncomputable abbrev Ak:=fun a b c d=>((a+1109,ah b c d):Addr×Obj)
noncomputable abbrev A9:=fun a b c d=>((a+1109,(ah b c d)):Addr×Obj)
noncomputable abbrev AI:=fun a b c d e f g h i j k l m n o p q r s t u=>(⟨fC (W2 a b c) (d+1109) (Ai a b c e f g h),none,none,(GN (i+1109),j)::(AL (i+1109),k)::(fn l,m)::iU n o p q r s t u,none⟩:Ctx)
theorem Jy {os:OsState}:
  Qg b1 b2 bb d os fun b1 b2 bb=>⟨W2 w b1 b2,gn,4,⟨qn (W2 w b1 b2) (tit+1109) (Ai w b1 b2 C cs co cd),none,none,(GN (G+1109),pg)::(AL (G+1109),pa)::(fn f0,p0)::iU bb fe pe f1 p1 f2 p2 p3,none⟩,(AI w b1 b2 tit C cs co cd G pg pa f0 p0 bb fe pe f1 p1 f2 p2 p3),den (qn (W2 w b1 b2) (tit+1109) (Ai w b1 b2 C cs co cd)),[(C+1109,aN [ak (W2 w b1 b2) ma k0 (Aa tit)] e0),(tit+1109,jc (tup+1109) 0),(tup+1109,de (Aa a) (Aa b)),Ak a da es ep],j+1109,tk,.e ⟨.call (rM (W2 w b1 b2) (j+1109) (Ai w b1 b2 C cs co cd)) none false,.again (fC (W2 w b1 b2) (tit+1109) (Ai w b1 b2 C cs co cd)),[(C+1109,aN [ak (W2 w b1 b2) (nm [46,48]) k0 (Aa tit),ak (W2 w b1 b2) qk tk (Aa a)] (e0+1)),(tit+1109,⟨(.type "tuple_iterator"),none,.fields #[(Aa tup),(.int 1 0)],#[]⟩),(tup+1109,(de (Aa a) (Aa b))),A9 a da es ep,(j+1109,⟨(.type "dict_keyiterator"),none,.fields #[(Aa a),(.int 0 0),(.int (↑es.size) 0),(.int (↑ep) 0)],#[]⟩)],(j+1110),tk+1⟩⟩:=jd 115 (Hx 0x15440440040000400041112232202020202022) [] [4] 115 (Hx 0x15440440040000400041112232202020) [] [4] (by kernel_rfl)
noncomputable abbrev At:=fun a b c d e f g h=>gF (W2 a b c) (d+1109) (Ai a b c e f g h)
noncomputable abbrev AE:=fun a b c d e f g h i j k l m n o p q r s t u v w=>(⟨rM (W2 a b c) (d+1109) (Ai a b c e f g h),none,none,(fC (W2 a b c) (i+1109) (Ai a b c e f g h),j)::(GN (k+1109),l)::(AL (k+1109),m)::(fn n,o)::iU p q r s t u v w,none⟩:Ctx)
theorem Jz {os:OsState}:
  Qg b1 b2 bb d os fun b1 b2 bb=>⟨W2 w b1 b2,gn,1,(AE w b1 b2 it1 C cs co cd tit pF G pg pa f0 p0 bb fe pe f1 p1 f2 p2 p3),(AE w b1 b2 it1 C cs co cd tit pF G pg pa f0 p0 bb fe pe f1 p1 f2 p2 p3),den (rM (W2 w b1 b2) (it1+1109) (Ai w b1 b2 C cs co cd)),[(it1+1109,bA (a+1109) 0 es.size ep)],j+1109,tk,.e ⟨.again (At w b1 b2 it1 C cs co cd),.again (At w b1 b2 it1 C cs co cd),[(it1+1109,(bA (a+1109) 0 (es.size) ep))],(j+1109),tk⟩⟩:=jd 72 [1,1,0,1,0,1] [] [] 72 [] [] [] (by kernel_rfl)
noncomputable abbrev Ab:=fun a b c d e f g h i j k l m n o p q r s t u v w=>(⟨gF (W2 a b c) (d+1109) (gi (W2 a b c) (e+1109) (f+1109) (g+1109) (h+1109)),none,none,(fC (W2 a b c) (i+1109) (gi (W2 a b c) (e+1109) (f+1109) (g+1109) (h+1109)),j)::(GN (k+1109),l)::(AL (k+1109),m)::(fn n,o)::iU p q r s t u v w,none⟩:Ctx)
noncomputable abbrev Ap:=fun a b c d e f g h i j k=>aN [ak (W2 a b c) (nm [46,48]) d e,ak (W2 a b c) qk f (Aa g),ak (W2 a b c) yY h (.int i j)] k
noncomputable abbrev AF:=fun a b=>((a+1109,(eG (Aa b))):Addr×Obj)
noncomputable abbrev AJ:=fun a b=>((a+1109,eG (Aa b)):Addr×Obj)
noncomputable abbrev Bg:=fun a b c d=>bA (a+1109) b c d
noncomputable abbrev B6:=fun a b c d e=>((a+1109,(Bg b (c+1) (d) e)):Addr×Obj)
noncomputable abbrev BD:=fun a b c d e f g h i=>((a+1109,aN [ak (W2 b c d) ma e f,ak (W2 b c d) qk g (Aa h)] i):Addr×Obj)
theorem y7 {os:OsState}{q0:Value}(fX:IntKeys es) (dX:IntKeys fs) (hx:es[i]?=some ⟨hashInt kv,.int kv t1,vv⟩) (je:findBy Value.isInt es kv=some (.int x tx)) (fD:findBy Value.isInt fs kv=some (.int y ty)):
  Qg b1 b2 bb d os fun b1 b2 bb=>⟨W2 w b1 b2,gn,6,(Ab w b1 b2 it1 C cs co cd tit pF G pg pa f0 p0 bb fe pe f1 p1 f2 p2 p3),(Ab w b1 b2 it1 C cs co cd tit pF G pg pa f0 p0 bb fe pe f1 p1 f2 p2 p3),den (At w b1 b2 it1 C cs co cd),[BD C w b1 b2 k0 q0 k1 a e0,(it1+1109,Bg a i es.size ep),Ak a da es ep,Ak b db fs fp,AJ cs a,AJ co b],j+1109,tk,.u (fq 1 2 (it1+1109) (a+1109) i es.size ep (ah da es ep) es rfl rfl ⟨hashInt kv,.int kv t1,vv⟩ hx)<| .u (bK 2 (a+1109) (ah da es ep) es ep rfl fX kv (.int x tx) je)<| .u (bK 3 (b+1109) (ah db fs fp) fs fp rfl dX kv (.int y ty) fD)<| .e ⟨.yield (.bool (x==y)) false,.again (At w b1 b2 it1 C cs co cd),[(C+1109,Ap w b1 b2 k0 q0 k1 a tk kv t1 (e0+1)),B6 it1 a i es.size ep,A9 a da es ep,A9 b db fs fp,AF cs a,AF co b],(j+1109),tk+3⟩⟩:=jd 120 [2,0,2,1] [(Hx 0x1103000030300031511),(Hx 0x11040000404000416),[0,0]] [] 120 [2,0,2,1] [(Hx 0x1103000030300031511),(Hx 0x11040000404000416),[0,0]] [] (by kernel_rfl)
theorem y8 {os:OsState}{q0:Value}(fX:IntKeys es) (dX:IntKeys fs) (hx:es[i]?=some ⟨hashInt kv,.int kv t1,vv⟩) (je:findBy Value.isInt es kv=some (.int x tx)) (fD:findBy Value.isInt fs kv=none):
  Qg b1 b2 bb d os fun b1 b2 bb=>⟨W2 w b1 b2,gn,6,(Ab w b1 b2 it1 C cs co cd tit pF G pg pa f0 p0 bb fe pe f1 p1 f2 p2 p3),(Ab w b1 b2 it1 C cs co cd tit pF G pg pa f0 p0 bb fe pe f1 p1 f2 p2 p3),den (At w b1 b2 it1 C cs co cd),[BD C w b1 b2 k0 q0 k1 a e0,(it1+1109,Bg a i es.size ep),Ak a da es ep,Ak b db fs fp,AJ cs a,AJ co b],j+1109,tk,.u (fq 1 2 (it1+1109) (a+1109) i es.size ep (ah da es ep) es rfl rfl ⟨hashInt kv,.int kv t1,vv⟩ hx)<| .u (bK 2 (a+1109) (ah da es ep) es ep rfl fX kv (.int x tx) je)<| .u (cD 3 (b+1109) (ah db fs fp) fs fp 1093 rfl rfl dX kv fD)<| .e ⟨.yield (.bool (x==0)) false,.again (At w b1 b2 it1 C cs co cd),[(C+1109,Ap w b1 b2 k0 q0 k1 a tk kv t1 (e0+1)),B6 it1 a i es.size ep,A9 a da es ep,A9 b db fs fp,AF cs a,AF co b],(j+1110),tk+6⟩⟩:=jd 145 [2,0,2,1] [(Hx 0x1103000030300031511),(Hx 0x11040000404000416),(Hx 0x10000777700000004)] [] 145 [2,0,2,1] [(Hx 0x1103000030300031511),(Hx 0x11040000404000416),(Hx 0x10000777700000004)] [] (by kernel_rfl)
noncomputable abbrev Bv:=fun a b c d e f g h i j k=>((a+1109,aN [ak (W2 b c d) ma e f,ak (W2 b c d) qk g (Aa h),ak (W2 b c d) yY i j] k):Addr×Obj)
theorem y9 {os:OsState}{q0 q1:Value}(fX:IntKeys es) (dX:IntKeys fs) (hx:es[i]?=some ⟨hashInt kv,.int kv t1,vv⟩) (je:findBy Value.isInt es kv=some (.int x tx)) (fD:findBy Value.isInt fs kv=some (.int y ty)):
  Qg b1 b2 bb d os fun b1 b2 bb=>⟨W2 w b1 b2,gn,6,(Ab w b1 b2 it1 C cs co cd tit pF G pg pa f0 p0 bb fe pe f1 p1 f2 p2 p3),(Ab w b1 b2 it1 C cs co cd tit pF G pg pa f0 p0 bb fe pe f1 p1 f2 p2 p3),den (At w b1 b2 it1 C cs co cd),[Bv C w b1 b2 k0 q0 k1 a m0 q1 e0,(it1+1109,Bg a i es.size ep),Ak a da es ep,Ak b db fs fp,AJ cs a,AJ co b],j+1109,tk,.u (fq 1 2 (it1+1109) (a+1109) i es.size ep (ah da es ep) es rfl rfl ⟨hashInt kv,.int kv t1,vv⟩ hx)<| .u (bK 2 (a+1109) (ah da es ep) es ep rfl fX kv (.int x tx) je)<| .u (bK 3 (b+1109) (ah db fs fp) fs fp rfl dX kv (.int y ty) fD)<| .e ⟨.yield (.bool (x==y)) false,.again (At w b1 b2 it1 C cs co cd),[(C+1109,Ap w b1 b2 k0 q0 k1 a m0 kv t1 e0),B6 it1 a i es.size ep,A9 a da es ep,A9 b db fs fp,AF cs a,AF co b],(j+1109),tk+3⟩⟩:=jd 120 [2,0,2,1] [(Hx 0x1103000030300031511),(Hx 0x11040000404000416),[0,0]] [] 120 [2,0,2,1] [(Hx 0x1103000030300031511),(Hx 0x11040000404000416),[0,0]] [] (by kernel_rfl)
theorem ze {os:OsState}{q0 q1:Value}(fX:IntKeys es) (dX:IntKeys fs) (hx:es[i]?=some ⟨hashInt kv,.int kv t1,vv⟩) (je:findBy Value.isInt es kv=some (.int x tx)) (fD:findBy Value.isInt fs kv=none):
  Qg b1 b2 bb d os fun b1 b2 bb=>⟨W2 w b1 b2,gn,6,(Ab w b1 b2 it1 C cs co cd tit pF G pg pa f0 p0 bb fe pe f1 p1 f2 p2 p3),(Ab w b1 b2 it1 C cs co cd tit pF G pg pa f0 p0 bb fe pe f1 p1 f2 p2 p3),den (At w b1 b2 it1 C cs co cd),[Bv C w b1 b2 k0 q0 k1 a m0 q1 e0,(it1+1109,Bg a i es.size ep),Ak a da es ep,Ak b db fs fp,AJ cs a,AJ co b],j+1109,tk,.u (fq 1 2 (it1+1109) (a+1109) i es.size ep (ah da es ep) es rfl rfl ⟨hashInt kv,.int kv t1,vv⟩ hx)<| .u (bK 2 (a+1109) (ah da es ep) es ep rfl fX kv (.int x tx) je)<| .u (cD 3 (b+1109) (ah db fs fp) fs fp 1093 rfl rfl dX kv fD)<| .e ⟨.yield (.bool (x==0)) false,.again (At w b1 b2 it1 C cs co cd),[(C+1109,Ap w b1 b2 k0 q0 k1 a m0 kv t1 e0),B6 it1 a i es.size ep,A9 a da es ep,A9 b db fs fp,AF cs a,AF co b],(j+1110),tk+6⟩⟩:=jd 145 [2,0,2,1] [(Hx 0x1103000030300031511),(Hx 0x11040000404000416),(Hx 0x10000777700000004)] [] 145 [2,0,2,1] [(Hx 0x1103000030300031511),(Hx 0x11040000404000416),(Hx 0x10000777700000004)] [] (by kernel_rfl)
theorem JA {os:OsState}(hx:es.size<=i):
  Qg b1 b2 bb d os fun b1 b2 bb=>⟨W2 w b1 b2,gn,2,(Ab w b1 b2 it1 C cs co cd tit pF G pg pa f0 p0 bb fe pe f1 p1 f2 p2 p3),(Ab w b1 b2 it1 C cs co cd tit pF G pg pa f0 p0 bb fe pe f1 p1 f2 p2 p3),den (At w b1 b2 it1 C cs co cd),[(it1+1109,Bg a i es.size ep),Ak a da es ep],j+1109,tk,.c (jC 0 1 (it1+1109) (a+1109) i es.size ep (ah da es ep) es rfl rfl hx) fun x1=>.e ⟨.done .next,.done .next,[(it1+1109,(x1)),A9 a da es ep],(j+1111),tk⟩⟩:=jd 68 [1,0,1,1] [[4]] [] 68 [1,0,1,1] [[4]] [] (by kernel_rfl)
theorem zf {os:OsState}{q0:Value}(fX:IntKeys es) (dX:IntKeys fs) (hx:fs[i]?=some ⟨hashInt kv,.int kv t1,vv⟩) (je:findBy Value.isInt es kv=some (.int x tx)) (fD:findBy Value.isInt fs kv=some (.int y ty)):
  Qg b1 b2 bb d os fun b1 b2 bb=>⟨W2 w b1 b2,gn,6,(Ab w b1 b2 it1 C cs co cd tit pF G pg pa f0 p0 bb fe pe f1 p1 f2 p2 p3),(Ab w b1 b2 it1 C cs co cd tit pF G pg pa f0 p0 bb fe pe f1 p1 f2 p2 p3),den (At w b1 b2 it1 C cs co cd),[BD C w b1 b2 k0 q0 k1 b e0,(it1+1109,Bg b i fs.size fp),Ak a da es ep,Ak b db fs fp,AJ cs a,AJ co b],j+1109,tk,.u (fq 1 3 (it1+1109) (b+1109) i fs.size fp (ah db fs fp) fs rfl rfl ⟨hashInt kv,.int kv t1,vv⟩ hx)<| .u (bK 2 (a+1109) (ah da es ep) es ep rfl fX kv (.int x tx) je)<| .u (bK 3 (b+1109) (ah db fs fp) fs fp rfl dX kv (.int y ty) fD)<| .e ⟨.yield (.bool (x==y)) false,.again (At w b1 b2 it1 C cs co cd),[(C+1109,Ap w b1 b2 k0 q0 k1 b tk kv t1 (e0+1)),B6 it1 b i fs.size fp,A9 a da es ep,A9 b db fs fp,AF cs a,AF co b],(j+1109),tk+3⟩⟩:=jd 120 [2,0,2,1] [(Hx 0x1103000030300031511),(Hx 0x11040000404000416),[0,0]] [] 120 [2,0,2,1] [(Hx 0x1103000030300031511),(Hx 0x11040000404000416),[0,0]] [] (by kernel_rfl)
theorem zg {os:OsState}{q0:Value}(fX:IntKeys es) (dX:IntKeys fs) (hx:fs[i]?=some ⟨hashInt kv,.int kv t1,vv⟩) (je:findBy Value.isInt es kv=none) (fD:findBy Value.isInt fs kv=some (.int y ty)):
  Qg b1 b2 bb d os fun b1 b2 bb=>⟨W2 w b1 b2,gn,6,(Ab w b1 b2 it1 C cs co cd tit pF G pg pa f0 p0 bb fe pe f1 p1 f2 p2 p3),(Ab w b1 b2 it1 C cs co cd tit pF G pg pa f0 p0 bb fe pe f1 p1 f2 p2 p3),den (At w b1 b2 it1 C cs co cd),[BD C w b1 b2 k0 q0 k1 b e0,(it1+1109,Bg b i fs.size fp),Ak a da es ep,Ak b db fs fp,AJ cs a,AJ co b],j+1109,tk,.u (fq 1 3 (it1+1109) (b+1109) i fs.size fp (ah db fs fp) fs rfl rfl ⟨hashInt kv,.int kv t1,vv⟩ hx)<| .u (cD 2 (a+1109) (ah da es ep) es ep 1093 rfl rfl fX kv je)<| .u (bK 3 (b+1109) (ah db fs fp) fs fp rfl dX kv (.int y ty) fD)<| .e ⟨.yield (.bool (0==y)) false,.again (At w b1 b2 it1 C cs co cd),[(C+1109,Ap w b1 b2 k0 q0 k1 b tk kv t1 (e0+1)),B6 it1 b i fs.size fp,A9 a da es ep,A9 b db fs fp,AF cs a,AF co b],(j+1110),tk+6⟩⟩:=jd 145 [2,0,2,1] [(Hx 0x1103000030300031511),(Hx 0x1104000040400041600777700000003),[0,0]] [] 145 [2,0,2,1] [(Hx 0x1103000030300031511),(Hx 0x1104000040400041600777700000003),[0,0]] [] (by kernel_rfl)
theorem zh {os:OsState}{q0 q1:Value}(fX:IntKeys es) (dX:IntKeys fs) (hx:fs[i]?=some ⟨hashInt kv,.int kv t1,vv⟩) (je:findBy Value.isInt es kv=some (.int x tx)) (fD:findBy Value.isInt fs kv=some (.int y ty)):
  Qg b1 b2 bb d os fun b1 b2 bb=>⟨W2 w b1 b2,gn,6,(Ab w b1 b2 it1 C cs co cd tit pF G pg pa f0 p0 bb fe pe f1 p1 f2 p2 p3),(Ab w b1 b2 it1 C cs co cd tit pF G pg pa f0 p0 bb fe pe f1 p1 f2 p2 p3),den (At w b1 b2 it1 C cs co cd),[Bv C w b1 b2 k0 q0 k1 b m0 q1 e0,(it1+1109,Bg b i fs.size fp),Ak a da es ep,Ak b db fs fp,AJ cs a,AJ co b],j+1109,tk,.u (fq 1 3 (it1+1109) (b+1109) i fs.size fp (ah db fs fp) fs rfl rfl ⟨hashInt kv,.int kv t1,vv⟩ hx)<| .u (bK 2 (a+1109) (ah da es ep) es ep rfl fX kv (.int x tx) je)<| .u (bK 3 (b+1109) (ah db fs fp) fs fp rfl dX kv (.int y ty) fD)<| .e ⟨.yield (.bool (x==y)) false,.again (At w b1 b2 it1 C cs co cd),[(C+1109,Ap w b1 b2 k0 q0 k1 b m0 kv t1 e0),B6 it1 b i fs.size fp,A9 a da es ep,A9 b db fs fp,AF cs a,AF co b],(j+1109),tk+3⟩⟩:=jd 120 [2,0,2,1] [(Hx 0x1103000030300031511),(Hx 0x11040000404000416),[0,0]] [] 120 [2,0,2,1] [(Hx 0x1103000030300031511),(Hx 0x11040000404000416),[0,0]] [] (by kernel_rfl)
theorem zi {os:OsState}{q0 q1:Value}(fX:IntKeys es) (dX:IntKeys fs) (hx:fs[i]?=some ⟨hashInt kv,.int kv t1,vv⟩) (je:findBy Value.isInt es kv=none) (fD:findBy Value.isInt fs kv=some (.int y ty)):
  Qg b1 b2 bb d os fun b1 b2 bb=>⟨W2 w b1 b2,gn,6,(Ab w b1 b2 it1 C cs co cd tit pF G pg pa f0 p0 bb fe pe f1 p1 f2 p2 p3),(Ab w b1 b2 it1 C cs co cd tit pF G pg pa f0 p0 bb fe pe f1 p1 f2 p2 p3),den (At w b1 b2 it1 C cs co cd),[Bv C w b1 b2 k0 q0 k1 b m0 q1 e0,(it1+1109,Bg b i fs.size fp),Ak a da es ep,Ak b db fs fp,AJ cs a,AJ co b],j+1109,tk,.u (fq 1 3 (it1+1109) (b+1109) i fs.size fp (ah db fs fp) fs rfl rfl ⟨hashInt kv,.int kv t1,vv⟩ hx)<| .u (cD 2 (a+1109) (ah da es ep) es ep 1093 rfl rfl fX kv je)<| .u (bK 3 (b+1109) (ah db fs fp) fs fp rfl dX kv (.int y ty) fD)<| .e ⟨.yield (.bool (0==y)) false,.again (At w b1 b2 it1 C cs co cd),[(C+1109,Ap w b1 b2 k0 q0 k1 b m0 kv t1 e0),B6 it1 b i fs.size fp,A9 a da es ep,A9 b db fs fp,AF cs a,AF co b],(j+1110),tk+6⟩⟩:=jd 145 [2,0,2,1] [(Hx 0x1103000030300031511),(Hx 0x1104000040400041600777700000003),[0,0]] [] 145 [2,0,2,1] [(Hx 0x1103000030300031511),(Hx 0x1104000040400041600777700000003),[0,0]] [] (by kernel_rfl)
theorem JB {os:OsState}(hx:fs.size<=i):
  Qg b1 b2 bb d os fun b1 b2 bb=>⟨W2 w b1 b2,gn,2,(Ab w b1 b2 it1 C cs co cd tit pF G pg pa f0 p0 bb fe pe f1 p1 f2 p2 p3),(Ab w b1 b2 it1 C cs co cd tit pF G pg pa f0 p0 bb fe pe f1 p1 f2 p2 p3),den (At w b1 b2 it1 C cs co cd),[(it1+1109,Bg b i fs.size fp),Ak b db fs fp],j+1109,tk,.c (jC 0 1 (it1+1109) (b+1109) i fs.size fp (ah db fs fp) fs rfl rfl hx) fun x1=>.e ⟨.done .next,.done .next,[(it1+1109,(x1)),A9 b db fs fp],(j+1111),tk⟩⟩:=jd 68 [1,0,1,1] [[4]] [] 68 [1,0,1,1] [[4]] [] (by kernel_rfl)
theorem JC {os:OsState}{q0:Value}{q2 q3:Value}:
  Qg b1 b2 bb d os fun b1 b2 bb=>⟨W2 w b1 b2,gn,4,(AI w b1 b2 tit C cs co cd G pg pa f0 p0 bb fe pe f1 p1 f2 p2 p3),(AI w b1 b2 tit C cs co cd G pg pa f0 p0 bb fe pe f1 p1 f2 p2 p3),den (fC (W2 w b1 b2) (tit+1109) (Ai w b1 b2 C cs co cd)),[(C+1109,aN [ak (W2 w b1 b2) ma k0 q0,ak (W2 w b1 b2) qk m1 q2,ak (W2 w b1 b2) yY m2 q3] e0),(tit+1109,jc (tup+1109) 1),(tup+1109,de (Aa a) (Aa b)),Ak b db fs fp],j+1109,tk,.e ⟨.call (rM (W2 w b1 b2) (j+1109) (Ai w b1 b2 C cs co cd)) none false,.again (fC (W2 w b1 b2) (tit+1109) (Ai w b1 b2 C cs co cd)),[(C+1109,aN [ak (W2 w b1 b2) (nm [46,48]) k0 q0,ak (W2 w b1 b2) qk m1 (Aa b),ak (W2 w b1 b2) yY m2 q3] e0),(tit+1109,⟨(.type "tuple_iterator"),none,.fields #[(Aa tup),(.int 2 0)],#[]⟩),(tup+1109,(de (Aa a) (Aa b))),A9 b db fs fp,(j+1109,⟨(.type "dict_keyiterator"),none,.fields #[(Aa b),(.int 0 0),(.int (↑fs.size) 0),(.int (↑fp) 0)],#[]⟩)],(j+1110),tk+1⟩⟩:=jd 103 (Hx 0x1544044004000040004111223220202) [] [4] 103 (Hx 0x1544044004000040004111223220202) [] [4] (by kernel_rfl)
theorem JD {os:OsState}:
  Qg b1 b2 bb d os fun b1 b2 bb=>⟨W2 w b1 b2,gn,2,(AI w b1 b2 tit C cs co cd G pg pa f0 p0 bb fe pe f1 p1 f2 p2 p3),(AI w b1 b2 tit C cs co cd G pg pa f0 p0 bb fe pe f1 p1 f2 p2 p3),den (fC (W2 w b1 b2) (tit+1109) (Ai w b1 b2 C cs co cd)),[(tit+1109,jc (tup+1109) 2),(tup+1109,de (Aa a) (Aa b))],j+1109,tk,.e ⟨.done .next,.done .next,[(tit+1109,⟨(.type "tuple_iterator"),none,.fields #[.none,(.int 2 0)],#[]⟩),(tup+1109,(de (Aa a) (Aa b)))],(j+1111),tk⟩⟩:=jd 77 [1,0,1,0,1,1,2,1,1,4] [] [] 77 [1,0,1,0,1,1,2,1,1,4] [] [] (by kernel_rfl)
theorem G5 {os:OsState}:
  Qg b1 b2 bb d os fun b1 b2 bb=>⟨W2 w b1 b2,gn,1,(AE w b1 b2 it1 C cs co cd tit pF G pg pa f0 p0 bb fe pe f1 p1 f2 p2 p3),(AE w b1 b2 it1 C cs co cd tit pF G pg pa f0 p0 bb fe pe f1 p1 f2 p2 p3),den (rM (W2 w b1 b2) (it1+1109) (Ai w b1 b2 C cs co cd)),[(it1+1109,bA (b+1109) 0 fs.size fp)],j+1109,tk,.e ⟨.again (At w b1 b2 it1 C cs co cd),.again (At w b1 b2 it1 C cs co cd),[(it1+1109,(bA (b+1109) 0 (fs.size) fp))],(j+1109),tk⟩⟩:=jd 72 [1,1,0,1,0,1] [] [] 72 [] [] [] (by kernel_rfl)
end
theorem GR.againD {E:En}{base:Ctx}{fs:List PySem.Frame}{Φ:End->Shared->Prop}{p:Pos}{s:Shared}{c:Code}(hq:c.quiet=true) (h:GR (Mo E) (base.goto c) fs Φ (den c) p s):GR (Mo E) base fs Φ (.pure (.again c)) p s:=by
 rw [iE] at h;exact GR.again hq h
theorem GR.callD {E:En}{base:Ctx}{fs:List PySem.Frame}{Φ:End->Shared->Prop}{p:Pos}{s:Shared}{c:Code}{hd:Option Value}{gd:Bool}{l:List Value}{k:Result->Sem PySem.Fin}(h:GR (Mo E) (base.goto c) (.ret k hd gd l base.code p []::fs) Φ (den c) p s):GR (Mo E) base fs Φ (.call c hd gd l k) p s:=by
 rw [iE] at h;exact GR.call h
structure GP where
 w:World
 b1:Bool
 b2:Bool
 gn:Nat
 a:Nat
 b:Nat
 C:Nat
 cs:Nat
 co:Nat
 cd:Nat
 tit:Nat
 tup:Nat
 g:Nat
 da:Nat
 db:Nat
 ep:Nat
 fp:Nat
 es:Array DictEntry
 fs:Array DictEntry
 go:Obj
 x5:Obj
 k0:Nat
 bb:Bool
 f0:FN
 fe:FN
 f1:FL
 f2:FN
 p0:Pos
 pe:Pos
 p1:Pos
 p2:Pos
 p3:Pos
 h₀:Heap
 K:Nat
 d:Drawn
 os:OsState
section
variable (V:GP)
noncomputable abbrev GP.W:World:=W2 V.w V.b1 V.b2
noncomputable abbrev GP.E:En:=Eg V.W V.gn
noncomputable abbrev GP.en:Env:=gi V.W (V.C+1109) (V.cs+1109) (V.co+1109) (V.cd+1109)
noncomputable abbrev GP.rest (pg pa:Pos):List (Code×Pos):=(GN (V.g+1109),pg)::(AL (V.g+1109),pa)::(fn V.f0,V.p0)::iU V.bb V.fe V.pe V.f1 V.p1 V.f2 V.p2 V.p3
noncomputable abbrev GP.M (ns:Obj) (o1:Addr×Obj) (i:Nat):Mm:=[(V.a+1109,ah V.da V.es V.ep),(V.b+1109,ah V.db V.fs V.fp),(975,V.x5),(V.C+1109,ns),o1,(V.cs+1109,eG (.ref (V.a+1109))),(V.co+1109,eG (.ref (V.b+1109))),(V.tit+1109,jc (V.tup+1109) i),(V.tup+1109,de (.ref (V.a+1109)) (.ref (V.b+1109))),(V.g+1109,V.go)]
inductive GP.St (m:Mm):Shared->Prop
 | mk {h:Heap}{g:Array GenState}{tk j:Nat}(hg:AllBare g/\V.gn < g.size) (hr:ag V.E V.h₀ V.K m (j+1109) h):GP.St m ⟨h,g,V.d,tk,V.os⟩
noncomputable def GP.Out:List Bool->End->Shared->Prop
 | [],e,s'=>e=.ret (.ok .next)/\∃ m,V.St m s'/\ad m 0=some (V.a+1109,ah V.da V.es V.ep)/\ad m 1=some (V.b+1109,ah V.db V.fs V.fp)/\ad m 2=some (975,V.x5)/\ad m 9=some (V.g+1109,V.go)
 | v::ay,e,s'=>∃ l k c p fs,e=.susp (.bool v) false l k c p fs/\fs.any Frame.guarded=false/\∃ ns o1 i,V.St (V.M ns o1 i) s'/\
   ∀ pg pa iR,V.St (V.M ns o1 i) iR->GR (Mo V.E) ⟨c,none,none,V.rest pg pa,none⟩ fs (GP.Out ay) (k (.send .none)) p iR
inductive GP.N (dd:Nat):Obj->Prop
 | mk {k0:Nat}{q0:Value}{k1 e0:Nat}:GP.N dd (aN [ak V.W ma k0 q0,ak V.W qk k1 (.ref (dd+1109))] e0)
inductive GP.NL (dd:Nat):Obj->Prop
 | mk {k0:Nat}{q0:Value}{k1 m0:Nat}{q1:Value}{e0:Nat}:GP.NL dd (aN [ak V.W ma k0 q0,ak V.W qk k1 (.ref (dd+1109)),ak V.W yY m0 q1] e0)
inductive zj (w:World) (it:Nat) (en:Env):PySem.Frame->Pos->Prop
 | mk {k:Result->Sem Fin}{l:List Value}{kp:List Value}{pF:Pos}(hk:k (.ok .next)=.pure (.again (fC w it en))):zj w it en (.ret k none false l (fC w it en) pF kp) pF
section
variable {M:Model}{base:Ctx}{fs:List PySem.Frame}{Φ:End->Shared->Prop}{t:Sem Fin}{p:Pos}{s:Shared}{c c':Code}{hd:Option Value}{gd:Bool}{v:Value}{f:Flow}
theorem GR.doneT (h:dB t=.done f) (k:GR M base fs Φ (.pure (.done f)) p s):GR M base fs Φ t p s:=by cases gh h;exact k
theorem GR.againT (h:dB t=.again c) (k:GR M base fs Φ (.pure (.again c)) p s):GR M base fs Φ t p s:=by cases gh h;exact k
theorem GR.callT (h:dB t=.call c hd gd) (h2:dB (gV t)=.again c') (K:∀ l k,k (.ok .next)=.pure (.again c')->GR M base fs Φ (.call c hd gd l k) p s):GR M base fs Φ t p s:=by
 cases gh h;exact K _ _ (em h2)
theorem GR.yieldT (h:dB t=.yield v gd) (h2:dB (gV t)=.again c') (K:∀ l k,k (.send .none)=.pure (.again c')->GR M base fs Φ (.yield v gd l k) p s):GR M base fs Φ t p s:=by
 cases gh h;exact K _ _ (em h2)
end
variable {V}
theorem GP.b_turn {A B:KV}(hA:Z V.es A) (hB:Z V.fs B):∀ (ay:KV) (i:Nat),B.drop i=ay->∀ (ns:Obj) (it1:Nat) (F:PySem.Frame) (pF pg pa p:Pos) (s:Shared),(V.N V.b ns∨V.NL V.b ns)->zj V.W (V.tit+1109) V.en F pF->
  V.St (V.M ns (it1+1109,bA (V.b+1109) i V.fs.size V.fp) 2) s->
  GR (Mo V.E) ⟨gF V.W (it1+1109) V.en,none,none,V.rest pg pa,none⟩ [F] (V.Out (ay.map fun x=>ct A x.1==ct B x.1)) (den (gF V.W (it1+1109) V.en)) p s:=by
 intro ay
 induction ay with
 | nil=>
  intro i hi ns it1 F pF pg pa p s aq hF hs
  induction hs with | @mk h g tk j hg hr=>?_
  have hx:V.fs.size<=i:=by
   rw [hB.size]
   have:=congrArg List.length hi
   simp at this;lia
  induction hF with | @mk k l kp pF hk=>?_
  have r1:=hr.sub [4,1] (an rfl) (by decide)
  refine JB (base:=⟨gF V.W (it1+1109) V.en,none,none,V.rest pg pa,none⟩) (frs:=[.ret k none false l (fC V.W (V.tit+1109) V.en) pF kp]) (h₀:=h) (Y:=2) hx p rfl (Nat.le_refl _) (fun x1 _ tr p2 h2 g2 ao cA t1 _=>?_) h g hg r1
  have r3:=hr.join' [4,1] (by decide) rfl cA rfl
  refine GR.doneT t1 ?_
  refine GR.pop (r:=.ok .next) ?_
  rw [hk]
  refine GR.againD rfl ?_
  have r4:=r3.sub [7,8] (an rfl) (by decide)
  refine JD (base:=⟨fC V.W (V.tit+1109) V.en,none,none,V.rest pg pa,none⟩) (frs:=[]) (h₀:=h2) (Y:=2) (j:=j+2) pF rfl (Nat.le_refl _) (fun tr p5 h5 g5 fY rN t5 _=>?_) h2 g2 ao r4
  have r6:=r3.join' [7,8] (by decide) rfl rN rfl
  refine GR.doneT t5 ?_
  exact GR.done ⟨rfl,_,⟨fY,r6⟩,rfl,rfl,rfl,rfl⟩
 | cons x ay ih=>
  intro i hi ns it1 F pF pg pa p s aq hF hs
  induction hs with | @mk h g tk j hg hr=>?_
  obtain ⟨kv,vv⟩:=x
  have hx:B[i]?=some (kv,vv):=by
   have:=congrArg (fun l=>l[0]?) hi
   simpa using this
  have bv:B.drop (i+1)=ay:=by
   have:=congrArg List.tail hi
   simpa using this
  obtain ⟨t,u,he⟩:=hB.at hx
  obtain ⟨y,hy⟩:=sP (List.mem_of_getElem? hx)
  obtain ⟨ty,fD⟩:=hB.hit hy
  have G6:ct B kv=y:=by unfold ct;rw [hy];rfl
  have F':=hF
  induction hF with | @mk k l kp pF hk=>?_
  have r1:=hr.sub [3,4,0,1,5,6] (an rfl) (by decide)
  have tail:∀ (x:Int) (m0:Nat) (aQ:Obj) (n' aF:Nat) (q:Value) tr p2 h2 g2,ct A kv=x->V.NL V.b aQ->AllBare g2/\V.gn < g2.size->
    ag V.E h 6 [(V.C+1109,aQ),(it1+1109,bA (V.b+1109) (i+1) V.fs.size V.fp),(V.a+1109,ah V.da V.es V.ep),(V.b+1109,ah V.db V.fs V.fp),(V.cs+1109,eG (.ref (V.a+1109))),(V.co+1109,eG (.ref (V.b+1109)))] (n'+1109) h2->
    dB tr=.yield (.bool (x==y)) false->dB (gV tr)=.again (gF V.W (it1+1109) V.en)->
    GR (Mo V.E) ⟨gF V.W (it1+1109) V.en,none,none,V.rest pg pa,none⟩ [.ret k none false l (fC V.W (V.tit+1109) V.en) pF kp] (V.Out (((kv,vv)::ay).map fun x=>ct A x.1==ct B x.1)) tr p2 ⟨h2,g2,V.d,aF,V.os⟩:=by
   intro x m0 aQ n' aF q tr p2 h2 g2 ex cq ao cA t1 t2
   refine GR.yieldT t1 t2 fun l2 k2 mb=>?_
   have r3:=hr.join' [3,4,0,1,5,6] (by decide) (by rfl) cA rfl
   refine GR.yield rfl ?_
   show V.Out ((ct A kv==ct B kv)::ay.map fun x=>ct A x.1==ct B x.1) _ _
   rw [ex,G6]
   refine ⟨_,_,_,_,_,rfl,rfl,_,_,2,⟨ao,r3⟩,fun G7 G8 iR ni=>?_⟩
   rw [mb]
   refine GR.againD rfl ?_
   exact ih (i+1) bv _ it1 _ pF G7 G8 _ iR (.inr cq) F' ni
  rcases hA.get kv with ⟨x,tx,e1,e2⟩ | ⟨e1,e2⟩
  ·have ex:ct A kv=x:=by unfold ct;rw [e1];rfl
   rcases aq with aq | aq
   ·induction aq with | @mk k0 q0 k1 e0=>?_
    exact zf (base:=⟨gF V.W (it1+1109) V.en,none,none,V.rest pg pa,none⟩) (frs:=[.ret k none false l (fC V.W (V.tit+1109) V.en) pF kp]) (h₀:=h) (Y:=6) hA.keys hB.keys he e2 fD p rfl (Nat.le_refl _) (fun tr p2 h2 g2 ao cA t1 t2=>tail x 0 _ _ _ .none tr p2 h2 g2 ex .mk ao cA t1 t2) h g hg r1
   ·induction aq with | @mk k0 q0 k1 m0 q1 e0=>?_
    exact zh (base:=⟨gF V.W (it1+1109) V.en,none,none,V.rest pg pa,none⟩) (frs:=[.ret k none false l (fC V.W (V.tit+1109) V.en) pF kp]) (h₀:=h) (Y:=6) hA.keys hB.keys he e2 fD p rfl (Nat.le_refl _) (fun tr p2 h2 g2 ao cA t1 t2=>tail x 0 _ _ _ .none tr p2 h2 g2 ex .mk ao cA t1 t2) h g hg r1
  ·have ex:ct A kv=0:=by unfold ct;rw [e1];rfl
   rcases aq with aq | aq
   ·induction aq with | @mk k0 q0 k1 e0=>?_
    exact zg (base:=⟨gF V.W (it1+1109) V.en,none,none,V.rest pg pa,none⟩) (frs:=[.ret k none false l (fC V.W (V.tit+1109) V.en) pF kp]) (h₀:=h) (Y:=6) hA.keys hB.keys he e2 fD p rfl (Nat.le_refl _) (fun tr p2 h2 g2 ao cA t1 t2=>tail 0 0 _ _ _ .none tr p2 h2 g2 ex .mk ao cA t1 t2) h g hg r1
   ·induction aq with | @mk k0 q0 k1 m0 q1 e0=>?_
    exact zi (base:=⟨gF V.W (it1+1109) V.en,none,none,V.rest pg pa,none⟩) (frs:=[.ret k none false l (fC V.W (V.tit+1109) V.en) pF kp]) (h₀:=h) (Y:=6) hA.keys hB.keys he e2 fD p rfl (Nat.le_refl _) (fun tr p2 h2 g2 ao cA t1 t2=>tail 0 0 _ _ _ .none tr p2 h2 g2 ex .mk ao cA t1 t2) h g hg r1
theorem GP.a_turn {A B:KV}(hA:Z V.es A) (hB:Z V.fs B) (hK:V.K<=3):∀ (ay:KV) (i:Nat),A.drop i=ay->∀ (ns:Obj) (it1:Nat) (F:PySem.Frame) (pF pg pa p:Pos) (s:Shared),((V.N V.a ns/\ay≠[])∨V.NL V.a ns)->zj V.W (V.tit+1109) V.en F pF->
  V.St (V.M ns (it1+1109,bA (V.a+1109) i V.es.size V.ep) 1) s->
  GR (Mo V.E) ⟨gF V.W (it1+1109) V.en,none,none,V.rest pg pa,none⟩ [F] (V.Out ((ay++B).map fun x=>ct A x.1==ct B x.1)) (den (gF V.W (it1+1109) V.en)) p s:=by
 intro ay
 induction ay with
 | nil=>
  intro i hi ns it1 F pF pg pa p s aq hF hs
  induction hs with | @mk h g tk j hg hr=>?_
  have hx:V.es.size<=i:=by
   rw [hA.size]
   have:=congrArg List.length hi
   simp at this;lia
  rcases aq with ⟨_,bD⟩ | aq
  ·exact absurd rfl bD
  induction aq with | @mk k0 q0 k1 m0 q1 e0=>?_
  induction hF with | @mk k l kp pF hk=>?_
  have r1:=hr.sub [4,0] (an rfl) (by decide)
  refine JA (base:=⟨gF V.W (it1+1109) V.en,none,none,V.rest pg pa,none⟩) (frs:=[.ret k none false l (fC V.W (V.tit+1109) V.en) pF kp]) (h₀:=h) (Y:=2) hx p rfl (Nat.le_refl _) (fun x1 _ tr p2 h2 g2 ao cA t1 _=>?_) h g hg r1
  have r3:=hr.join' [4,0] (by decide) rfl cA rfl
  refine GR.doneT t1 ?_
  refine GR.pop (r:=.ok .next) ?_
  rw [hk]
  refine GR.againD rfl ?_
  have r4:=r3.sub [3,7,8,1] (an rfl) (by decide)
  refine JC (base:=⟨fC V.W (V.tit+1109) V.en,none,none,V.rest pg pa,none⟩) (frs:=[]) (h₀:=h2) (Y:=4) (j:=j+2) pF rfl (Nat.le_refl _) (fun tr p5 h5 g5 fY rN t5 t6=>?_) h2 g2 ao r4
  have r6:=r3.join' [3,7,8,1] (by decide) rfl rN rfl
  refine GR.callT t5 t6 fun l2 k2 mb=>?_
  refine GR.callD ?_
  have r7:=r6.pick [0,1,2,3,10,5,6,7,8,9] 3 (by decide) (by decide) hK rfl
  have r8:=r7.sub [4] (an rfl) (by decide)
  refine G5 (base:=⟨rM V.W (j+2+1109) V.en,none,none,V.rest pg pa,none⟩) (frs:=[.ret k2 none false l2 (fC V.W (V.tit+1109) V.en) p5 []]) (h₀:=h5) (Y:=1) (j:=j+3) (it1:=j+2) p5 rfl (Nat.le_refl _) (fun tr p9 h9 g9 G9 Ha t9 _=>?_) h5 g5 fY r8
  have u9:=r7.join' [4] (by decide) rfl Ha rfl
  refine GR.againT t9 ?_
  refine GR.againD rfl ?_
  exact b_turn hA hB B 0 rfl _ (j+2) _ p5 pg pa p9 _ (.inr .mk) ⟨mb⟩ ⟨G9,u9⟩
 | cons x ay ih=>
  intro i hi ns it1 F pF pg pa p s aq hF hs
  induction hs with | @mk h g tk j hg hr=>?_
  obtain ⟨kv,vv⟩:=x
  have hx:A[i]?=some (kv,vv):=by
   have:=congrArg (fun l=>l[0]?) hi
   simpa using this
  have bv:A.drop (i+1)=ay:=by
   have:=congrArg List.tail hi
   simpa using this
  obtain ⟨t,u,he⟩:=hA.at hx
  obtain ⟨y,hy⟩:=sP (List.mem_of_getElem? hx)
  obtain ⟨ty,fD⟩:=hA.hit hy
  have G6:ct A kv=y:=by unfold ct;rw [hy];rfl
  have F':=hF
  induction hF with | @mk k l kp pF hk=>?_
  have r1:=hr.sub [3,4,0,1,5,6] (an rfl) (by decide)
  have tail:∀ (x:Int) (m0:Nat) (aQ:Obj) (n' aF:Nat) (q:Value) tr p2 h2 g2,ct B kv=x->V.NL V.a aQ->AllBare g2/\V.gn < g2.size->
    ag V.E h 6 [(V.C+1109,aQ),(it1+1109,bA (V.a+1109) (i+1) V.es.size V.ep),(V.a+1109,ah V.da V.es V.ep),(V.b+1109,ah V.db V.fs V.fp),(V.cs+1109,eG (.ref (V.a+1109))),(V.co+1109,eG (.ref (V.b+1109)))] (n'+1109) h2->
    dB tr=.yield (.bool (y==x)) false->dB (gV tr)=.again (gF V.W (it1+1109) V.en)->
    GR (Mo V.E) ⟨gF V.W (it1+1109) V.en,none,none,V.rest pg pa,none⟩ [.ret k none false l (fC V.W (V.tit+1109) V.en) pF kp] (V.Out (((kv,vv)::ay++B).map fun x=>ct A x.1==ct B x.1)) tr p2 ⟨h2,g2,V.d,aF,V.os⟩:=by
   intro x m0 aQ n' aF q tr p2 h2 g2 ex cq ao cA t1 t2
   refine GR.yieldT t1 t2 fun l2 k2 mb=>?_
   have r3:=hr.join' [3,4,0,1,5,6] (by decide) (by rfl) cA rfl
   refine GR.yield rfl ?_
   show V.Out ((ct A kv==ct B kv)::(ay++B).map fun x=>ct A x.1==ct B x.1) _ _
   rw [ex,G6]
   refine ⟨_,_,_,_,_,rfl,rfl,_,_,1,⟨ao,r3⟩,fun G7 G8 iR ni=>?_⟩
   rw [mb]
   refine GR.againD rfl ?_
   exact ih (i+1) bv _ it1 _ pF G7 G8 _ iR (.inr cq) F' ni
  rcases hB.get kv with ⟨x,tx,e1,e2⟩ | ⟨e1,e2⟩
  ·have ex:ct B kv=x:=by unfold ct;rw [e1];rfl
   rcases aq with ⟨aq,_⟩ | aq
   ·induction aq with | @mk k0 q0 k1 e0=>?_
    exact y7 (base:=⟨gF V.W (it1+1109) V.en,none,none,V.rest pg pa,none⟩) (frs:=[.ret k none false l (fC V.W (V.tit+1109) V.en) pF kp]) (h₀:=h) (Y:=6) hA.keys hB.keys he fD e2 p rfl (Nat.le_refl _) (fun tr p2 h2 g2 ao cA t1 t2=>tail x 0 _ _ _ .none tr p2 h2 g2 ex .mk ao cA t1 t2) h g hg r1
   ·induction aq with | @mk k0 q0 k1 m0 q1 e0=>?_
    exact y9 (base:=⟨gF V.W (it1+1109) V.en,none,none,V.rest pg pa,none⟩) (frs:=[.ret k none false l (fC V.W (V.tit+1109) V.en) pF kp]) (h₀:=h) (Y:=6) hA.keys hB.keys he fD e2 p rfl (Nat.le_refl _) (fun tr p2 h2 g2 ao cA t1 t2=>tail x 0 _ _ _ .none tr p2 h2 g2 ex .mk ao cA t1 t2) h g hg r1
  ·have ex:ct B kv=0:=by unfold ct;rw [e1];rfl
   rcases aq with ⟨aq,_⟩ | aq
   ·induction aq with | @mk k0 q0 k1 e0=>?_
    exact y8 (base:=⟨gF V.W (it1+1109) V.en,none,none,V.rest pg pa,none⟩) (frs:=[.ret k none false l (fC V.W (V.tit+1109) V.en) pF kp]) (h₀:=h) (Y:=6) hA.keys hB.keys he fD e2 p rfl (Nat.le_refl _) (fun tr p2 h2 g2 ao cA t1 t2=>tail 0 0 _ _ _ .none tr p2 h2 g2 ex .mk ao cA t1 t2) h g hg r1
   ·induction aq with | @mk k0 q0 k1 m0 q1 e0=>?_
    exact ze (base:=⟨gF V.W (it1+1109) V.en,none,none,V.rest pg pa,none⟩) (frs:=[.ret k none false l (fC V.W (V.tit+1109) V.en) pF kp]) (h₀:=h) (Y:=6) hA.keys hB.keys he fD e2 p rfl (Nat.le_refl _) (fun tr p2 h2 g2 ao cA t1 t2=>tail 0 0 _ _ _ .none tr p2 h2 g2 ex .mk ao cA t1 t2) h g hg r1
end
noncomputable abbrev Ex (w:World) (g0:Array GenState):En:=⟨pw,w,gb w.params,[975],fun a=>a=g0,true,none,oS⟩
noncomputable abbrev JE (w:World) (g0:Array GenState) (gn:Nat) (s:GenStatus) (z:Option (List (Code×Pos))) (h:∃ st,g0[gn]?=some st/\st.seen=(s,z)):En:=⟨pw,w,gb w.params,[975],fun a=>a=g0,true,some (gn,(s,z)),fun x hx a ha=>by cases hx;subst ha;exact h⟩
noncomputable def fu (gn:Nat) (n1 n2:Str) (t1 t2:Nat):Obj:=⟨.type "generator",none,.fields #[.int gn 0,.str n1 t1,.str n2 t2],#[]⟩
noncomputable def FY:Sem PySem.Fin->GenResult->Sem PySem.Fin
 | .resume _ _ _ k=>k
 | _=>fun _=>.unsupported "no"
noncomputable def zk:Sem PySem.Fin->Option Nat
 | .resume g (.send .none) _ _=>some g
 | _=>none
noncomputable def mN (g:Nat) (f0:FN) (p0:Pos) (bb:Bool) (fe:FN) (pe:Pos) (f1:FL) (p1:Pos) (f2:FN) (p2 p3:Pos):Ctx:=⟨AL (g+1109),none,none,(fn f0,p0)::iU bb fe pe f1 p1 f2 p2 p3,none⟩
noncomputable def jf (w:World) (g0:Array GenState) (gn:Nat) (s:GenStatus) (z:Option (List (Code×Pos))) (h:∃ st,g0[gn]?=some st/\st.seen=(s,z)) (g:Nat) (f0:FN) (p0:Pos) (bb:Bool) (fe:FN) (pe:Pos) (f1:FL) (p1:Pos) (f2:FN) (p2 p3:Pos) (s1 s2:Str) (u1 u2 j tk:Nat) (p:Pos):Out:=
 dH (JE w g0 gn s z h) 30 [1,0,1,0,1,0] [] ⟨mN g f0 p0 bb fe pe f1 p1 f2 p2 p3,p,[],den (AL (g+1109)),[(g+1109,fu gn s1 s2 u1 u2)],j+1109,tk⟩
noncomputable def Hb (o:Out) (r:GenResult) (m:Mm) (n tk:Nat):eL:=⟨o.c.Γ,o.c.p,o.c.κ,FY o.c.t r,m,n,tk⟩
theorem Hc (w:World) (b1 b2:Bool) (g0:Array GenState) (gn:Nat) (s:GenStatus) (hs:s=.fresh∨s=.suspended) (z:Option (List (Code×Pos))) (h:∃ st,g0[gn]?=some st/\st.seen=(s,z)) (g:Nat) (f0:FN) (p0:Pos) (bb:Bool) (fe:FN) (pe:Pos) (f1:FL) (p1:Pos) (f2:FN) (p2 p3:Pos) (s1 s2:Str) (u1 u2 j tk:Nat) (p:Pos):
 ((jf (W2 w b1 b2) g0 gn s z h g f0 p0 bb fe pe f1 p1 f2 p2 p3 s1 s2 u1 u2 j tk p).L,(jf (W2 w b1 b2) g0 gn s z h g f0 p0 bb fe pe f1 p1 f2 p2 p3 s1 s2 u1 u2 j tk p).A.length,(jf (W2 w b1 b2) g0 gn s z h g f0 p0 bb fe pe f1 p1 f2 p2 p3 s1 s2 u1 u2 j tk p).c.Γ,(jf (W2 w b1 b2) g0 gn s z h g f0 p0 bb fe pe f1 p1 f2 p2 p3 s1 s2 u1 u2 j tk p).c.κ.length,
  zk (jf (W2 w b1 b2) g0 gn s z h g f0 p0 bb fe pe f1 p1 f2 p2 p3 s1 s2 u1 u2 j tk p).c.t,(jf (W2 w b1 b2) g0 gn s z h g f0 p0 bb fe pe f1 p1 f2 p2 p3 s1 s2 u1 u2 j tk p).c.m,(jf (W2 w b1 b2) g0 gn s z h g f0 p0 bb fe pe f1 p1 f2 p2 p3 s1 s2 u1 u2 j tk p).c.n,(jf (W2 w b1 b2) g0 gn s z h g f0 p0 bb fe pe f1 p1 f2 p2 p3 s1 s2 u1 u2 j tk p).c.tk)=
 ((jf (W2 w b1 b2) g0 gn s z h g f0 p0 bb fe pe f1 p1 f2 p2 p3 s1 s2 u1 u2 j tk p).R,0,⟨GN (g+1109),none,none,(AL (g+1109),p)::(fn f0,p0)::iU bb fe pe f1 p1 f2 p2 p3,none⟩,1,some gn,[(g+1109,fu gn s1 s2 u1 u2)],j+1109,tk):=by
 rcases hs with rfl | rfl<;>cases b1<;>cases bb<;>kernel_rfl
section
variable {E E':En}{a g0 g1:Array GenState}{g i j j2 Y n tk tk2 u1 u2:Nat}{h h2 hp h₀:Heap}{m:Mm}{o:Obj}{p pa pg:Pos}
theorem ag.cast (r:ag E h₀ Y m n h) (hT:E'.T=E.T) (hm:E'.mu=E.mu):ag E' h₀ Y m n h:=
 ⟨r.size,by rw [hT,hm];exact r.base,r.own,r.apart,by rw [hT,hm];exact r.off,r.keep,r.start,r.fresh,r.old,by rw [hT];exact r.lowT⟩
theorem zl {t:Sem PySem.Fin}(h:zk t=some g):∃ l,t=.resume g (.send .none) l (FY t):=by
 unfold zk at h
 split at h
 ·cases h;exact ⟨_,rfl⟩
 ·cases h
theorem iI (h:AllBare a) (i:Nat) {x:GenState}(hx:x.bare=true):AllBare (a.setIfInBounds i x):=by
 intro y hy
 rcases Array.mem_or_eq_of_mem_setIfInBounds hy with h' | rfl
 ·exact h y h'
 ·exact hx
theorem zm {x:GenState}(h:i < a.size):(a.setIfInBounds i x)[i]?=some x:=by
 rw [Array.getElem?_setIfInBounds_self_of_lt h]
variable {V:GP}
noncomputable def GP.Wait (V:GP) (ay:List Bool) (m:Mm) (gs:GenState):Prop:=
 (∃ c,gs=.fresh c/\∀ pg pa p iR,V.St m iR->GR (Mo V.E) ⟨c,none,none,V.rest pg pa,none⟩ [] (V.Out ay) (den c) p iR)∨
 ∃ k l c p fs,gs=.suspended k l c p fs false/\∀ pg pa iR,V.St m iR->GR (Mo V.E) ⟨c,none,none,V.rest pg pa,none⟩ fs (V.Out ay) (k (.send .none)) p iR
theorem GP.Wait.seen {ay:List Bool}{gs:GenState}(h:V.Wait ay m gs):∃ s z,(s=.fresh∨s=.suspended)/\gs.seen=(s,z):=by
 rcases h with ⟨c,rfl,_⟩ | ⟨k,l,c,p,fs,rfl,_⟩
 ·exact ⟨_,_,.inl rfl,rfl⟩
 ·exact ⟨_,_,.inr rfl,rfl⟩
theorem GP.Wait.wakes {ay:List Bool}{gs:GenState}(h:V.Wait ay m gs) (hgs:g0[V.gn]?=some gs) (hb:AllBare g0) (hr:ag V.E V.h₀ V.K m (j+1109) hp):
  ∃ e bF,Wakes (Mo V.E) ⟨GN (V.g+1109),none,none,(AL (V.g+1109),pa)::(fn V.f0,V.p0)::iU V.bb V.fe V.pe V.f1 V.p1 V.f2 V.p2 V.p3,none⟩ pg V.gn (.send .none) ⟨hp,g0,V.d,tk,V.os⟩ e.result (bF.setGen V.gn e.genState)/\V.Out ay e bF:=by
 have cv:V.gn < g0.size:=(Array.getElem?_eq_some_iff.mp hgs).1
 have st:V.St m ((⟨hp,g0,V.d,tk,V.os⟩:Shared).setGen V.gn .running):=⟨⟨iI hb _ rfl,by show V.gn < (g0.setIfInBounds _ _).size;rw [Array.size_setIfInBounds];exact cv⟩,hr⟩
 have quiet:∀ {e s'},V.Out ay e s'->e.quiet=true:=by
  intro e s' ho
  cases ay with
  | nil=>obtain ⟨rfl,_⟩:=ho;rfl
  | cons v ay=>
   obtain ⟨l,k,c,p,fs,rfl,hq,_⟩:=ho
   show (!(false||fs.any Frame.guarded))=true
   rw [hq];rfl
 rcases h with ⟨c,rfl,H⟩ | ⟨k,l,c,p,fs,rfl,H⟩
 ·obtain ⟨e,s',r,o⟩:=H pg pa pg _ st
  refine ⟨e,s',?_,o⟩
  unfold Wakes
  rw [show (⟨hp,g0,V.d,tk,V.os⟩:Shared).gens[V.gn]?=some (.fresh c) from hgs]
  rw [iE] at r
  exact ⟨e,s',r,quiet o,rfl,rfl⟩
 ·obtain ⟨e,s',r,o⟩:=H pg pa _ st
  refine ⟨e,s',?_,o⟩
  unfold Wakes
  rw [show (⟨hp,g0,V.d,tk,V.os⟩:Shared).gens[V.gn]?=some (.suspended k l c p fs false) from hgs]
  exact ⟨e,s',r,quiet o,rfl,rfl⟩
theorem GP.al_end {st:GenStatus}(hs:st=.fresh∨st=.suspended) {z:Option (List (Code×Pos))}(hz:∃ s,g0[V.gn]?=some s/\s.seen=(st,z)) {s1 s2:Str}{R:Result->Shared->Prop}(hk:Y<=1)
  (fin:∀ h g,g=g1->ag (Ex V.W g1) h₀ Y [(V.g+1109,fu V.gn s1 s2 u1 u2)] (j2+1111) h->R (.ok (.ret (.bool true))) ⟨h,g,V.d,tk2,V.os⟩):
  am (Ex V.W g1) h₀ Y R V.d V.os (Hb (jf V.W g0 V.gn st z hz V.g V.f0 V.p0 V.bb V.fe V.pe V.f1 V.p1 V.f2 V.p2 V.p3 s1 s2 u1 u2 j tk p) (.returned .none) [(V.g+1109,fu V.gn s1 s2 u1 u2)] (j2+1109) tk2):=by
 refine DA (Γ:=mN V.g V.f0 V.p0 V.bb V.fe V.pe V.f1 V.p1 V.f2 V.p2 V.p3) (fuel:=40) (hs:=[3]) (keep:=[0]) (K:=1) (t:=.done (.ret (.bool true))) ?_ hk (by decide) (by decide) rfl (fun _ h g hg hr=>fin h g hg hr)
 clear fin
 obtain ⟨w,b1,b2,gn,a,b,C,cs,co,cd,tit,tup,g,da,db,ep,fp,es,fs,go,x5,k0,bb,f0,fe,f1,f2,p0,pe,p1,p2,p3,hh,K,d,os⟩:=V
 dsimp only at hz ⊢
 rcases hs with rfl | rfl<;>cases b1<;>cases bb<;>kernel_rfl
theorem GP.al_yield {st:GenStatus}(hs:st=.fresh∨st=.suspended) {z:Option (List (Code×Pos))}(hz:∃ s,g0[V.gn]?=some s/\s.seen=(st,z)) {s1 s2:Str}{R:Result->Shared->Prop}(hk:Y<=1) (v:Bool)
  (fin:∀ p h g,g=g1->ag (Ex V.W g1) h₀ Y [(V.g+1109,fu V.gn s1 s2 u1 u2)] (j2+1109) h->dx (Ex V.W g1) R (mN V.g V.f0 V.p0 V.bb V.fe V.pe V.f1 V.p1 V.f2 V.p2 V.p3) (@Bool.rec (fun _=>gt) (.done (.ret (.bool false))) (.again (AL (V.g+1109))) v) p ⟨h,g,V.d,tk2,V.os⟩):
  am (Ex V.W g1) h₀ Y R V.d V.os (Hb (jf V.W g0 V.gn st z hz V.g V.f0 V.p0 V.bb V.fe V.pe V.f1 V.p1 V.f2 V.p2 V.p3 s1 s2 u1 u2 j tk p) (.yielded (.bool v)) [(V.g+1109,fu V.gn s1 s2 u1 u2)] (j2+1109) tk2):=by
 refine DA (Γ:=mN V.g V.f0 V.p0 V.bb V.fe V.pe V.f1 V.p1 V.f2 V.p2 V.p3) (fuel:=40) (hs:=[]) (keep:=[0]) (K:=1) (t:=@Bool.rec (fun _=>gt) (.done (.ret (.bool false))) (.again (AL (V.g+1109))) v) ?_ hk (by decide) (by decide) rfl fin
 clear fin
 obtain ⟨w,b1,b2,gn,a,b,C,cs,co,cd,tit,tup,g,da,db,ep,fp,es,fs,go,x5,k0,bb,f0,fe,f1,f2,p0,pe,p1,p2,p3,hh,K,d,os⟩:=V
 dsimp only at hz ⊢
 rcases hs with rfl | rfl<;>cases v<;>cases b1<;>cases bb<;>kernel_rfl
theorem jZ {a:Addr}(r:ag E h 1 [(a,o)] n h2) (ha:h.get? a=some o):∀ b x,h.get? b=some x->h2.get? b=some x:=by
 intro b x e
 by_cases hb:b=a
 ·subst hb
  rw [ha] at e;cases e
  exact r.own 0 _ _ rfl
 ·refine r.keep b x e fun i a' o' hi g q=>?_
  have:i=0:=by lia
  subst this
  cases g
  exact hb q.symm
theorem GP.al_step {R:Result->Shared->Prop}{s1 s2:Str}(n4:V.go=fu V.gn s1 s2 u1 u2) {ay:List Bool}{gs:GenState}(hw:V.Wait ay m gs) (hgs:g0[V.gn]?=some gs) (hb:AllBare g0) (hi:ad m i=some (V.g+1109,V.go))
  (hr:ag V.E V.h₀ V.K m (j+1109) h) {st:GenStatus}(hs:st=.fresh∨st=.suspended) {z:Option (List (Code×Pos))}(hz:∃ s,g0[V.gn]?=some s/\s.seen=(st,z))
  (next:∀ e bF Hd He zn,V.Out ay e bF->Wc (Mo V.E) R (Hb (jf V.W g0 V.gn st z hz V.g V.f0 V.p0 V.bb V.fe V.pe V.f1 V.p1 V.f2 V.p2 V.p3 s1 s2 u1 u2 j tk p) e.result Hd He zn) (bF.setGen V.gn e.genState)):
  wpCode (Mo V.E) (mN V.g V.f0 V.p0 V.bb V.fe V.pe V.f1 V.p1 V.f2 V.p2 V.p3) R p ⟨h,g0,V.d,tk,V.os⟩:=by
 refine aD (E:=JE V.W g0 V.gn st z hz) (h₀:=V.h₀) (Y:=V.K) (m:=m) (n:=j+1109) rfl (hr.cast rfl rfl) ?_
 have tE:sel m [i]=[(V.g+1109,fu V.gn s1 s2 u1 u2)]:=by
  show (match ad m i with | some x=>x::sel m [] | none=>sel m [])=_
  rw [hi,n4];rfl
 refine am.sub [i] tE (by simp) rfl fun h1 aj=>?_
 have hf:=Hc V.w V.b1 V.b2 g0 V.gn st hs z hz V.g V.f0 V.p0 V.bb V.fe V.pe V.f1 V.p1 V.f2 V.p2 V.p3 s1 s2 u1 u2 j tk p
 refine dj rfl 30 .nil [1,0,1,0,1,0] _ ⟨(Prod.ext_iff.mp hf).1,?_⟩ trivial ?_
 ·have:=(Prod.ext_iff.mp (Prod.ext_iff.mp hf).2).1
  dsimp only at this
  show cu (jf V.W g0 V.gn st z hz V.g V.f0 V.p0 V.bb V.fe V.pe V.f1 V.p1 V.f2 V.p2 V.p3 s1 s2 u1 u2 j tk p).A []
  rw [List.length_eq_zero_iff.mp this];trivial
 ·show am _ h1 1 R V.d V.os (jf V.W g0 V.gn st z hz V.g V.f0 V.p0 V.bb V.fe V.pe V.f1 V.p1 V.f2 V.p2 V.p3 s1 s2 u1 u2 j tk p).c
  generalize jf V.W g0 V.gn st z hz V.g V.f0 V.p0 V.bb V.fe V.pe V.f1 V.p1 V.f2 V.p2 V.p3 s1 s2 u1 u2 j tk p=o at hf next ⊢
  simp only [Prod.mk.injEq] at hf
  obtain ⟨_,_,f1,f2,f3,f4,f5,f6⟩:=hf
  intro h2 g2 ao aa
  have ao:g2=g0:=ao
  subst ao
  rw [f4,f5] at aa
  have aS:ag V.E V.h₀ V.K m (j+1109) h2:=by
   have r1:=aj.cast (E':=V.E) rfl rfl
   exact r1.grow aa.size (Nat.le_refl _) (jZ aa (by rw [<- n4];exact r1.own i _ _ hi))
  obtain ⟨e,bF,W,O⟩:=hw.wakes hgs hb (pg:=o.c.p) (pa:=p) (tk:=tk) aS
  have nx:=next e bF o.c.m o.c.n o.c.tk O
  obtain ⟨⟨Γ,p',κ,t,mm,nn,aF⟩,L,R',A⟩:=o
  dsimp only at f1 f2 f3 f4 f5 f6 W nx ⊢
  subst f1 f6
  obtain ⟨l,ht⟩:=zl f3
  rcases κ with _ | ⟨f,_ | ⟨f',κ⟩⟩
  ·cases f2
  ·rw [ht]
   exact ⟨e.result,_,W,nx⟩
  ·cases f2
theorem GP.all_loop {R:Result->Shared->Prop}{s1 s2:Str}(n4:V.go=fu V.gn s1 s2 u1 u2):∀ (ay:List Bool) (m:Mm) (gs:GenState) (i:Nat) (g0:Array GenState) (h:Heap) (j tk:Nat) (p:Pos),V.Wait ay m gs->g0[V.gn]?=some gs->AllBare g0->ad m i=some (V.g+1109,V.go)->
  ag V.E V.h₀ V.K m (j+1109) h->ad m 0=some (V.a+1109,ah V.da V.es V.ep)->ad m 1=some (V.b+1109,ah V.db V.fs V.fp)->ad m 2=some (975,V.x5)->
  (∀ h' g' m' j' aF,AllBare g'->ag V.E V.h₀ V.K m' (j'+1109) h'->ad m' 0=some (V.a+1109,ah V.da V.es V.ep)->ad m' 1=some (V.b+1109,ah V.db V.fs V.fp)->ad m' 2=some (975,V.x5)->R (.ok (.ret (.bool (ay.all id)))) ⟨h',g',V.d,aF,V.os⟩)->
  wpCode (Mo V.E) (mN V.g V.f0 V.p0 V.bb V.fe V.pe V.f1 V.p1 V.f2 V.p2 V.p3) R p ⟨h,g0,V.d,tk,V.os⟩:=by
 intro ay
 induction ay with
 | nil=>
  intro m gs i g0 h j tk p hw hgs hb hi hr h0 h1 My fin
  obtain ⟨st,z,hs,Hf⟩:=hw.seen
  have hz:∃ s,g0[V.gn]?=some s/\s.seen=(st,z):=⟨gs,hgs,Hf⟩
  refine GP.al_step n4 hw hgs hb hi hr hs hz fun e bF Hd He zn ho=>?_
  obtain ⟨rfl,m',iT,a0,a1,a2,a8⟩:=ho
  induction iT with | @mk h' g' aF j1 hgs r1=>?_
  obtain ⟨oT,aG⟩:=hgs
  have tE:sel m' [9]=[(V.g+1109,fu V.gn s1 s2 u1 u2)]:=by
   show (match ad m' 9 with | some x=>x::sel m' [] | none=>sel m' [])=_
   rw [a8,n4];rfl
  have z2:=(GP.al_end (V:=V) (g1:=g'.setIfInBounds V.gn .finished) hs hz (s1:=s1) (s2:=s2) (u1:=u1) (u2:=u2) (j:=j) (tk:=tk) (j2:=j1) (tk2:=aF) (p:=p) (h₀:=h') (Y:=1) (R:=R) (Nat.le_refl _) (fun h3 g3 dY jg=>by
   subst dY
   have r4:=jg.cast (E':=V.E) rfl rfl
   have r5:ag V.E V.h₀ V.K m' (j1+2+1109) h3:=r1.grow r4.size (by lia) (jZ r4 (by rw [<- n4];exact r1.own 9 _ _ a8))
   exact fin h3 _ m' (j1+2) aF (iI oT _ rfl) r5 a0 a1 a2)) h' _ rfl (by
    have r2:=(r1.cast (E':=Ex V.W (g'.setIfInBounds V.gn .finished)) rfl rfl).sub [9] (an (by rw [tE];rfl)) (by decide)
    rw [tE] at r2
    exact r2)
  exact z2
 | cons v ay ih=>
  intro m gs i g0 h j tk p hw hgs hb hi hr h0 h1 My fin
  obtain ⟨st,z,hs,Hf⟩:=hw.seen
  have hz:∃ s,g0[V.gn]?=some s/\s.seen=(st,z):=⟨gs,hgs,Hf⟩
  refine GP.al_step n4 hw hgs hb hi hr hs hz fun e bF Hd He zn ho=>?_
  obtain ⟨l,k,c,pp,frs,rfl,hq,ns,o1,ii,iT,K⟩:=ho
  induction iT with | @mk h' g' aF j1 hgs r1=>?_
  obtain ⟨oT,aG⟩:=hgs
  have JF:(End.susp (.bool v) false l k c pp frs).genState=.suspended k l c pp frs false:=by
   show GenState.suspended k l c pp frs (false||frs.any Frame.guarded)=_
   rw [hq];rfl
  have z2:=(GP.al_yield (V:=V) (g1:=g'.setIfInBounds V.gn (.suspended k l c pp frs false)) hs hz (s1:=s1) (s2:=s2) (u1:=u1) (u2:=u2) (j:=j) (tk:=tk) (j2:=j1) (tk2:=aF) (p:=p) (h₀:=h') (Y:=1) (R:=R) (Nat.le_refl _) v (fun p3 h3 g3 dY jg=>by
   subst dY
   have r4:=jg.cast (E':=V.E) rfl rfl
   have r5:ag V.E V.h₀ V.K (V.M ns o1 ii) (j1+1109) h3:=r1.grow r4.size (Nat.le_refl _) (jZ r4 (by rw [<- n4];exact r1.own 9 _ _ rfl))
   cases v with
   | false=>exact fin h3 _ _ j1 aF (iI oT _ rfl) r5 rfl rfl rfl
   | true=>
    refine ih _ (.suspended k l c pp frs false) 9 _ h3 j1 aF p3 (.inr ⟨k,l,c,pp,frs,rfl,K⟩) (zm aG) (iI oT _ rfl) rfl r5 rfl rfl rfl fin)) h' _ rfl (by
    have r2:=(r1.cast (E':=Ex V.W (g'.setIfInBounds V.gn (.suspended k l c pp frs false))) rfl rfl).sub [9] (an rfl) (by decide)
    show ag _ _ _ [(V.g+1109,fu V.gn s1 s2 u1 u2)] _ _
    rw [<- n4]
    exact r2)
  show Wc (Mo V.E) R _ ((⟨h',g',V.d,aF,V.os⟩:Shared).setGen V.gn (End.susp (.bool v) false l k c pp frs).genState)
  rw [JF]
  exact z2
end
variable {V:GP}
noncomputable abbrev GP.M0 (V:GP) (ns:Obj):Mm:=[(V.a+1109,ah V.da V.es V.ep),(V.b+1109,ah V.db V.fs V.fp),(975,V.x5),(V.C+1109,ns),(V.cs+1109,eG (.ref (V.a+1109))),(V.co+1109,eG (.ref (V.b+1109))),(V.tit+1109,jc (V.tup+1109) 0),(V.tup+1109,de (.ref (V.a+1109)) (.ref (V.b+1109))),(V.g+1109,V.go)]
theorem GP.start {A B:KV}(hA:Z V.es A) (hB:Z V.fs B) (hK:V.K<=3) (bD:A≠[]) {k0 e0:Nat}:V.Wait ((A++B).map fun x=>ct A x.1==ct B x.1) (V.M0 (aN [ak V.W ma k0 (.ref (V.tit+1109))] e0)) (.fresh (qn V.W (V.tit+1109) V.en)):=by
 refine .inl ⟨_,rfl,fun pg pa p iR hs=>?_⟩
 induction hs with | @mk h g tk j hg hr=>?_
 have r1:=hr.sub [3,6,7,0] (an rfl) (by decide)
 refine Jy (base:=⟨qn V.W (V.tit+1109) V.en,none,none,V.rest pg pa,none⟩) (frs:=[]) (h₀:=h) (Y:=4) (j:=j) p rfl (Nat.le_refl _) (fun tr p5 h5 g5 fY rN t5 t6=>?_) h g hg r1
 have r6:=hr.join' [3,6,7,0] (by decide) rfl rN rfl
 refine GR.callT t5 t6 fun l2 k2 mb=>?_
 refine GR.callD ?_
 have r7:=r6.pick [0,1,2,3,9,4,5,6,7,8] 3 (by decide) (by decide) hK rfl
 have r8:=r7.sub [4] (an rfl) (by decide)
 refine Jz (base:=⟨rM V.W (j+1109) V.en,none,none,V.rest pg pa,none⟩) (frs:=[.ret k2 none false l2 (fC V.W (V.tit+1109) V.en) p5 []]) (h₀:=h5) (Y:=1) (j:=j+1) (it1:=j) p5 rfl (Nat.le_refl _) (fun tr p9 h9 g9 G9 Ha t9 _=>?_) h5 g5 fY r8
 have u9:=r7.join' [4] (by decide) rfl Ha rfl
 refine GR.againT t9 ?_
 refine GR.againD rfl ?_
 exact GP.a_turn hA hB hK A 0 rfl _ j _ p5 pg pa p9 _ (.inl ⟨.mk,bD⟩) ⟨mb⟩ ⟨G9,u9⟩
noncomputable def jH (w:World):Obj:=((gb w.params).get 975).getD default
noncomputable def cJ (cd:Nat):Obj:=⟨.none,none,.fields #[.int 578 0,.int 19 0,.ref cd],#[]⟩
noncomputable def qo:Sem PySem.Fin->Nat->Sem PySem.Fin
 | .newGen _ k=>k
 | _=>fun _=>.unsupported "no"
noncomputable def tF:Sem PySem.Fin->Option Code
 | .newGen c _=>some c
 | _=>none
theorem qp {t:Sem PySem.Fin}{c:Code}(h:tF t=some c):t=.newGen c (qo t):=by
 unfold tF at h
 split at h
 ·cases h;rfl
 ·cases h
noncomputable abbrev EQ (a b:Nat):Code:=.call (.ref 980) ⟨[.ref (a+1109),.ref (b+1109)],[]⟩
noncomputable def zo (a b:Nat) (bb:Bool) (fe:FN) (pe:Pos) (f1:FL) (p1:Pos) (f2:FN) (p2 p3:Pos):Ctx:=⟨EQ a b,none,none,iU bb fe pe f1 p1 f2 p2 p3,none⟩
noncomputable def kT (w:World) (j:Nat):FN:=(dQ (eW w 980),{b6 w 980 (j+1109) with cells:=[(br,j+1111),(bG,j+1110)]})
noncomputable def va (l:List (Code×Pos)):Pos:=match l with | x::_=>x.2 | []=>default
noncomputable def Hg (v:Bool):List Nat:=@Bool.rec (fun _=>List Nat) [0,0,5,5,6,6,0,0,0,0,6,0,0,0,0,2,0,0,5,6,7,7,0,7,0,8,0,0,3,0,0,9,9] [0,0,5,5,6,6,0,0,0,0,6,0,0,0,0,2,0,0,5,6,7,7,0,7,0,8,0,0,3,3,3,3,0,0,12,12] v
noncomputable def ee (v:Bool) (w:World) (a b da db ep fp cd:Nat) (es fs:Array DictEntry) (bb:Bool) (fe:FN) (pe:Pos) (f1:FL) (p1:Pos) (f2:FN) (p2 p3:Pos) (j tk:Nat) (p:Pos):Out:=
 dH (E2 w) 140 (Hg v) [] ⟨zo a b bb fe pe f1 p1 f2 p2 p3,p,[],den (EQ a b),[(a+1109,ah da es ep),(b+1109,ah db fs fp),(975,@Bool.rec (fun _=>Obj) (cJ (cd+1109)) (jH w) v)],j+1109,tk⟩
noncomputable def D4 (l:List Fm):Ctx:=match l with | f::_=>f.Γ | []=>⟨CC,none,none,[],none⟩
noncomputable def D5 (l:List Fm):Pos:=match l with | f::_=>f.p | []=>default
noncomputable def D6 (l:List Fm) (r:Result):Sem PySem.Fin:=match l with | f::_=>f.k r | []=>.unsupported "no"
noncomputable abbrev vb:Str:=nm [60,103,101,110,101,120,112,114,62]
noncomputable abbrev vc:Str:=nm [67,111,117,110,116,101,114,46,95,95,101,113,95,95,46,60,108,111,99,97,108,115,62,46,60,103,101,110,101,120,112,114,62]
noncomputable def bt (w:World) (g1:Array GenState) (gn a b da db ep fp cd:Nat) (es fs:Array DictEntry) (bb:Bool) (fe:FN) (pe:Pos) (f1:FL) (p1:Pos) (f2:FN) (p2 p3:Pos) (j tk:Nat) (p:Pos):Out:=
 dH (Ex w g1) 60 [0,0,2,2,0,2,0,2,3] [] ⟨⟨fn (kT w j),none,none,iU bb fe pe f1 p1 f2 p2 p3,none⟩,(ee true w a b da db ep fp cd es fs bb fe pe f1 p1 f2 p2 p3 j tk p).c.p,[],qo (ee true w a b da db ep fp cd es fs bb fe pe f1 p1 f2 p2 p3 j tk p).c.t gn,[(a+1109,ah da es ep)],j+1118,tk+8⟩
section
variable (w:World) (b1 b2:Bool) (g1:Array GenState) (gn a b da db ep fp cd:Nat) (es fs:Array DictEntry) (bb:Bool) (fe:FN) (pe:Pos) (f1:FL) (p1:Pos) (f2:FN) (p2 p3:Pos) (j tk:Nat) (p:Pos)
theorem qq:((ee true (W2 w b1 b2) a b da db ep fp cd es fs bb fe pe f1 p1 f2 p2 p3 j tk p).L,(ee true (W2 w b1 b2) a b da db ep fp cd es fs bb fe pe f1 p1 f2 p2 p3 j tk p).A.length,(ee true (W2 w b1 b2) a b da db ep fp cd es fs bb fe pe f1 p1 f2 p2 p3 j tk p).c.Γ,(ee true (W2 w b1 b2) a b da db ep fp cd es fs bb fe pe f1 p1 f2 p2 p3 j tk p).c.κ.length,tF (ee true (W2 w b1 b2) a b da db ep fp cd es fs bb fe pe f1 p1 f2 p2 p3 j tk p).c.t,sel (ee true (W2 w b1 b2) a b da db ep fp cd es fs bb fe pe f1 p1 f2 p2 p3 j tk p).c.m [0,1,2,11,4,5,7,6],(ee true (W2 w b1 b2) a b da db ep fp cd es fs bb fe pe f1 p1 f2 p2 p3 j tk p).c.n,(ee true (W2 w b1 b2) a b da db ep fp cd es fs bb fe pe f1 p1 f2 p2 p3 j tk p).c.tk)=
 ((ee true (W2 w b1 b2) a b da db ep fp cd es fs bb fe pe f1 p1 f2 p2 p3 j tk p).R,0,⟨fn (kT (W2 w b1 b2) j),none,none,iU bb fe pe f1 p1 f2 p2 p3,none⟩,0,some (qn (W2 w b1 b2) (j+4+1109) (gi (W2 w b1 b2) (j+8+1109) (j+1+1109) (j+2+1109) ((j+7)+1109))),
  [Ak a da es ep,Ak b db fs fp,(975,cJ ((j+7)+1109)),(j+8+1109,aN [ak (W2 w b1 b2) ma (tk+7) (.ref (j+4+1109))] 1),(j+1+1109,eG (Aa a)),(j+2+1109,eG (Aa b)),(j+4+1109,jc (j+3+1109) 0),(j+3+1109,de (Aa a) (Aa b))],j+1118,tk+8):=by
 cases b1<;>cases bb<;>kernel_rfl
theorem qr:((bt (W2 w b1 b2) g1 gn a b da db ep fp cd es fs bb fe pe f1 p1 f2 p2 p3 j tk p).L,(bt (W2 w b1 b2) g1 gn a b da db ep fp cd es fs bb fe pe f1 p1 f2 p2 p3 j tk p).A.length,(bt (W2 w b1 b2) g1 gn a b da db ep fp cd es fs bb fe pe f1 p1 f2 p2 p3 j tk p).c.Γ.goto (AL (j+9+1109)),(bt (W2 w b1 b2) g1 gn a b da db ep fp cd es fs bb fe pe f1 p1 f2 p2 p3 j tk p).c.κ.length,dB (bt (W2 w b1 b2) g1 gn a b da db ep fp cd es fs bb fe pe f1 p1 f2 p2 p3 j tk p).c.t,(bt (W2 w b1 b2) g1 gn a b da db ep fp cd es fs bb fe pe f1 p1 f2 p2 p3 j tk p).c.m,(bt (W2 w b1 b2) g1 gn a b da db ep fp cd es fs bb fe pe f1 p1 f2 p2 p3 j tk p).c.n,(bt (W2 w b1 b2) g1 gn a b da db ep fp cd es fs bb fe pe f1 p1 f2 p2 p3 j tk p).c.tk)=
 ((bt (W2 w b1 b2) g1 gn a b da db ep fp cd es fs bb fe pe f1 p1 f2 p2 p3 j tk p).R,0,mN (j+9) (kT (W2 w b1 b2) j) (va (bt (W2 w b1 b2) g1 gn a b da db ep fp cd es fs bb fe pe f1 p1 f2 p2 p3 j tk p).c.Γ.below) bb fe pe f1 p1 f2 p2 p3,1,.again (AL (j+9+1109)),[Ak a da es ep,(j+9+1109,fu gn vb vc (tk+8) (tk+8+1))],j+1118+1,tk+8+2):=by
 cases b1<;>cases bb<;>kernel_rfl
noncomputable abbrev Ae:=fun a b c=>E2 (W2 a b c)
theorem qs {d:Drawn}{os:OsState}{h₀:Heap}{Y:Nat}{R:Result->Shared->Prop}(hk:Y<=1) (v:Bool) (j2 tk2:Nat) (fin:∀ h g,AllBare g->ag (Ae w b1 b2) h₀ Y [Ak a da es ep] (j2+1109) h->R (.ok (.ret (.bool v))) ⟨h,g,d,tk2,os⟩):
 am (Ae w b1 b2) h₀ Y R d os ⟨D4 (bt (W2 w b1 b2) g1 gn a b da db ep fp cd es fs bb fe pe f1 p1 f2 p2 p3 j tk p).c.κ,D5 (bt (W2 w b1 b2) g1 gn a b da db ep fp cd es fs bb fe pe f1 p1 f2 p2 p3 j tk p).c.κ,[],D6 (bt (W2 w b1 b2) g1 gn a b da db ep fp cd es fs bb fe pe f1 p1 f2 p2 p3 j tk p).c.κ (.ok (.ret (.bool v))),[Ak a da es ep],j2+1109,tk2⟩:=by
 refine DA (Γ:=zo a b bb fe pe f1 p1 f2 p2 p3) (fuel:=60) (hs:=[]) (keep:=[0]) (K:=1) (t:=.done (.ret (.bool v))) ?_ hk (by decide) (by decide) rfl (fun _ h g hg hr=>fin h g hg hr)
 clear fin
 cases b1<;>cases bb<;>kernel_rfl
end
noncomputable def aZ (w:World) (g1:Array GenState) (gn a b da db ep fp cd:Nat) (es fs:Array DictEntry) (bb:Bool) (fe:FN) (pe:Pos) (f1:FL) (p1:Pos) (f2:FN) (p2 p3:Pos) (j tk:Nat) (p:Pos):Out:=
 dH (Ex w g1) 60 [0,0,2,2,0,2,0,2,3] [] ⟨⟨fn (kT w j),none,none,iU bb fe pe f1 p1 f2 p2 p3,none⟩,(ee false w a b da db ep fp cd es fs bb fe pe f1 p1 f2 p2 p3 j tk p).c.p,[],qo (ee false w a b da db ep fp cd es fs bb fe pe f1 p1 f2 p2 p3 j tk p).c.t gn,[(a+1109,ah da es ep)],j+1115,tk+1⟩
section
variable (w:World) (b1 b2:Bool) (g1:Array GenState) (gn a b da db ep fp cd:Nat) (es fs:Array DictEntry) (bb:Bool) (fe:FN) (pe:Pos) (f1:FL) (p1:Pos) (f2:FN) (p2 p3:Pos) (j tk:Nat) (p:Pos)
noncomputable abbrev Ba:=fun a=>cJ (a+1109)
theorem n5:((ee false (W2 w b1 b2) a b da db ep fp cd es fs bb fe pe f1 p1 f2 p2 p3 j tk p).L,(ee false (W2 w b1 b2) a b da db ep fp cd es fs bb fe pe f1 p1 f2 p2 p3 j tk p).A.length,(ee false (W2 w b1 b2) a b da db ep fp cd es fs bb fe pe f1 p1 f2 p2 p3 j tk p).c.Γ,(ee false (W2 w b1 b2) a b da db ep fp cd es fs bb fe pe f1 p1 f2 p2 p3 j tk p).c.κ.length,tF (ee false (W2 w b1 b2) a b da db ep fp cd es fs bb fe pe f1 p1 f2 p2 p3 j tk p).c.t,sel (ee false (W2 w b1 b2) a b da db ep fp cd es fs bb fe pe f1 p1 f2 p2 p3 j tk p).c.m [0,1,2,8,4,5,7,6],(ee false (W2 w b1 b2) a b da db ep fp cd es fs bb fe pe f1 p1 f2 p2 p3 j tk p).c.n,(ee false (W2 w b1 b2) a b da db ep fp cd es fs bb fe pe f1 p1 f2 p2 p3 j tk p).c.tk)=
 ((ee false (W2 w b1 b2) a b da db ep fp cd es fs bb fe pe f1 p1 f2 p2 p3 j tk p).R,0,⟨fn (kT (W2 w b1 b2) j),none,none,iU bb fe pe f1 p1 f2 p2 p3,none⟩,0,some (qn (W2 w b1 b2) (j+4+1109) (gi (W2 w b1 b2) (j+5+1109) (j+1+1109) (j+2+1109) (cd+1109))),
  [Ak a da es ep,Ak b db fs fp,(975,Ba cd),(j+5+1109,aN [ak (W2 w b1 b2) ma tk (.ref (j+4+1109))] 1),(j+1+1109,eG (Aa a)),(j+2+1109,eG (Aa b)),(j+4+1109,jc (j+3+1109) 0),(j+3+1109,de (Aa a) (Aa b))],j+1115,tk+1):=by
 cases b1<;>cases bb<;>kernel_rfl
theorem n6:((aZ (W2 w b1 b2) g1 gn a b da db ep fp cd es fs bb fe pe f1 p1 f2 p2 p3 j tk p).L,(aZ (W2 w b1 b2) g1 gn a b da db ep fp cd es fs bb fe pe f1 p1 f2 p2 p3 j tk p).A.length,(aZ (W2 w b1 b2) g1 gn a b da db ep fp cd es fs bb fe pe f1 p1 f2 p2 p3 j tk p).c.Γ.goto (AL (j+6+1109)),(aZ (W2 w b1 b2) g1 gn a b da db ep fp cd es fs bb fe pe f1 p1 f2 p2 p3 j tk p).c.κ.length,dB (aZ (W2 w b1 b2) g1 gn a b da db ep fp cd es fs bb fe pe f1 p1 f2 p2 p3 j tk p).c.t,(aZ (W2 w b1 b2) g1 gn a b da db ep fp cd es fs bb fe pe f1 p1 f2 p2 p3 j tk p).c.m,(aZ (W2 w b1 b2) g1 gn a b da db ep fp cd es fs bb fe pe f1 p1 f2 p2 p3 j tk p).c.n,(aZ (W2 w b1 b2) g1 gn a b da db ep fp cd es fs bb fe pe f1 p1 f2 p2 p3 j tk p).c.tk)=
 ((aZ (W2 w b1 b2) g1 gn a b da db ep fp cd es fs bb fe pe f1 p1 f2 p2 p3 j tk p).R,0,mN (j+6) (kT (W2 w b1 b2) j) (va (aZ (W2 w b1 b2) g1 gn a b da db ep fp cd es fs bb fe pe f1 p1 f2 p2 p3 j tk p).c.Γ.below) bb fe pe f1 p1 f2 p2 p3,1,.again (AL (j+6+1109)),[Ak a da es ep,(j+6+1109,fu gn vb vc (tk+1) (tk+1+1))],j+1115+1,tk+1+2):=by
 cases b1<;>cases bb<;>kernel_rfl
theorem n7 {d:Drawn}{os:OsState}{h₀:Heap}{Y:Nat}{R:Result->Shared->Prop}(hk:Y<=1) (v:Bool) (j2 tk2:Nat) (fin:∀ h g,AllBare g->ag (Ae w b1 b2) h₀ Y [Ak a da es ep] (j2+1109) h->R (.ok (.ret (.bool v))) ⟨h,g,d,tk2,os⟩):
 am (Ae w b1 b2) h₀ Y R d os ⟨D4 (aZ (W2 w b1 b2) g1 gn a b da db ep fp cd es fs bb fe pe f1 p1 f2 p2 p3 j tk p).c.κ,D5 (aZ (W2 w b1 b2) g1 gn a b da db ep fp cd es fs bb fe pe f1 p1 f2 p2 p3 j tk p).c.κ,[],D6 (aZ (W2 w b1 b2) g1 gn a b da db ep fp cd es fs bb fe pe f1 p1 f2 p2 p3 j tk p).c.κ (.ok (.ret (.bool v))),[Ak a da es ep],j2+1109,tk2⟩:=by
 refine DA (Γ:=zo a b bb fe pe f1 p1 f2 p2 p3) (fuel:=60) (hs:=[]) (keep:=[0]) (K:=1) (t:=.done (.ret (.bool v))) ?_ hk (by decide) (by decide) rfl (fun _ h g hg hr=>fin h g hg hr)
 clear fin
 cases b1<;>cases bb<;>kernel_rfl
end
section
variable {A B:KV}{a b cd da db ep fp j tk:Nat}{b1 b2 bb:Bool}{d:Drawn}{es fs:Array DictEntry}{f1:FL}{f2 fe:FN}{h₀:Heap}{p p1 p2 p3 pe:Pos}{w:World}
theorem mc {a:Array GenState}(h:AllBare a) {x:GenState}(hx:x.bare=true):AllBare (a.push x):=by
 intro y hy
 rcases Array.mem_push.mp hy with h' | rfl
 ·exact h y h'
 ·exact hx
noncomputable def vd (w:World) (b1 b2:Bool) (g0:Array GenState) (a b da db ep fp cd:Nat) (es fs:Array DictEntry) (bb:Bool) (fe:FN) (pe:Pos) (f1:FL) (p1:Pos) (f2:FN) (p2 p3:Pos) (j tk:Nat) (p:Pos) (c:Code) (h₀:Heap) (d:Drawn) (os:OsState):GP:=
 {w,b1,b2,gn:=g0.size,a,b,C:=j+8,cs:=j+1,co:=j+2,cd:=(j+7),tit:=j+4,tup:=j+3,g:=j+9,da,db,ep,fp,es,fs,go:=fu g0.size vb vc (tk+8) (tk+8+1),x5:=cJ ((j+7)+1109),k0:=0,bb,f0:=kT (W2 w b1 b2) j,fe,f1,f2,
  p0:=va (bt (W2 w b1 b2) (g0.push (.fresh c)) g0.size a b da db ep fp cd es fs bb fe pe f1 p1 f2 p2 p3 j tk p).c.Γ.below,pe,p1,p2,p3,h₀,K:=3,d,os}
noncomputable abbrev BL:=fun a b c=>jH (W2 a b c)
theorem kF {os:OsState}(hA:Z es A) (hB:Z fs B) (bD:A≠[]) {R:Result->Shared->Prop}
  (fin:∀ (md j' aF:Nat) h g,AllBare g->ag (Ae w b1 b2) h₀ 3 [Ak a da es ep,Ak b db fs fp,(975,Ba md)] (j'+1109) h->R (.ok (.ret (.bool (((A++B).map fun x=>ct A x.1==ct B x.1).all id)))) ⟨h,g,d,aF,os⟩):
  am (Ae w b1 b2) h₀ 3 R d os ⟨zo a b bb fe pe f1 p1 f2 p2 p3,p,[],den (EQ a b),[Ak a da es ep,Ak b db fs fp,(975,@Bool.rec (fun _=>Obj) (Ba cd) (BL w b1 b2) true)],j+1109,tk⟩:=by
 have hf:=qq w b1 b2 a b da db ep fp cd es fs bb fe pe f1 p1 f2 p2 p3 j tk p
 refine dj rfl 140 .nil (Hg true) _ ⟨(Prod.ext_iff.mp hf).1,?_⟩ trivial ?_
 ·have:=(Prod.ext_iff.mp (Prod.ext_iff.mp hf).2).1
  dsimp only at this
  show cu (ee true (W2 w b1 b2) a b da db ep fp cd es fs bb fe pe f1 p1 f2 p2 p3 j tk p).A []
  rw [List.length_eq_zero_iff.mp this];trivial
 ·show am _ h₀ 3 R d os (ee true (W2 w b1 b2) a b da db ep fp cd es fs bb fe pe f1 p1 f2 p2 p3 j tk p).c
  have K2:=fun g1 gn=>qr w b1 b2 g1 gn a b da db ep fp cd es fs bb fe pe f1 p1 f2 p2 p3 j tk p
  intro h1 g0 zp aj
  simp only [Prod.mk.injEq] at hf
  obtain ⟨_,_,e1,e2,e3,e4,e5,e6⟩:=hf
  have aa:=aj.pick [0,1,2,11,4,5,7,6] 3 (by decide) (by decide) (Nat.le_refl _) (by rw [e4];rfl)
  rw [e4,e5] at aa
  have c0:=qp e3
  generalize hC:qn (W2 w b1 b2) (j+4+1109) (gi (W2 w b1 b2) (j+8+1109) (j+1+1109) (j+2+1109) ((j+7)+1109))=C at *
  -- the way on,behind the new generator
  have next:am (Ex (W2 w b1 b2) (g0.push (.fresh C))) h1 1 R d os ⟨⟨fn (kT (W2 w b1 b2) j),none,none,iU bb fe pe f1 p1 f2 p2 p3,none⟩,(ee true (W2 w b1 b2) a b da db ep fp cd es fs bb fe pe f1 p1 f2 p2 p3 j tk p).c.p,[],qo (ee true (W2 w b1 b2) a b da db ep fp cd es fs bb fe pe f1 p1 f2 p2 p3 j tk p).c.t g0.size,[(a+1109,ah da es ep)],j+1118,tk+8⟩:=by
   have hq:=K2 (g0.push (.fresh C)) g0.size
   refine dj rfl 60 .nil [0,0,2,2,0,2,0,2,3] _ ⟨(Prod.ext_iff.mp hq).1,?_⟩ trivial ?_
   ·have:=(Prod.ext_iff.mp (Prod.ext_iff.mp hq).2).1
    dsimp only at this
    show cu (bt (W2 w b1 b2) (g0.push (.fresh C)) g0.size a b da db ep fp cd es fs bb fe pe f1 p1 f2 p2 p3 j tk p).A []
    rw [List.length_eq_zero_iff.mp this];trivial
   ·show am _ h1 1 R d os (bt (W2 w b1 b2) (g0.push (.fresh C)) g0.size a b da db ep fp cd es fs bb fe pe f1 p1 f2 p2 p3 j tk p).c
    intro h2 g2 ao aS
    have ao:g2=g0.push (.fresh C):=ao
    let V:=vd w b1 b2 g0 a b da db ep fp cd es fs bb fe pe f1 p1 f2 p2 p3 j tk p C h₀ d os
    have W:wpCode (Mo V.E) (mN (j+9) (kT (W2 w b1 b2) j) (va (bt (W2 w b1 b2) (g0.push (.fresh C)) g0.size a b da db ep fp cd es fs bb fe pe f1 p1 f2 p2 p3 j tk p).c.Γ.below) bb fe pe f1 p1 f2 p2 p3)
      (fun r s'=>∃ v,r=.ok (.ret (.bool v))/\Wc (Mo V.E) R ⟨D4 (bt (W2 w b1 b2) (g0.push (.fresh C)) g0.size a b da db ep fp cd es fs bb fe pe f1 p1 f2 p2 p3 j tk p).c.κ,D5 (bt (W2 w b1 b2) (g0.push (.fresh C)) g0.size a b da db ep fp cd es fs bb fe pe f1 p1 f2 p2 p3 j tk p).c.κ,[],D6 (bt (W2 w b1 b2) (g0.push (.fresh C)) g0.size a b da db ep fp cd es fs bb fe pe f1 p1 f2 p2 p3 j tk p).c.κ (.ok (.ret (.bool v))),[(a+1109,ah da es ep)],0,0⟩ s')
      (bt (W2 w b1 b2) (g0.push (.fresh C)) g0.size a b da db ep fp cd es fs bb fe pe f1 p1 f2 p2 p3 j tk p).c.p ⟨h2,g0.push (.fresh C),d,tk+8+2,os⟩:=by
     have rA:=(aa.cast (E':=V.E) rfl rfl)
     have rB:ag V.E h1 1 [(a+1109,ah da es ep),(j+9+1109,fu g0.size vb vc (tk+8) (tk+8+1))] (j+1118+1) h2:=by
      have zq:=hq
      simp only [Prod.mk.injEq] at zq
      obtain ⟨_,_,_,_,_,f5,f6,_⟩:=zq
      rw [f5,f6] at aS
      exact aS.cast rfl rfl
     have rC:=rA.join' [0] (by decide) rfl rB rfl
     have rD:ag V.E V.h₀ V.K (V.M0 (aN [ak (W2 w b1 b2) ma (tk+7) (.ref (j+4+1109))] 1)) (j+9+1+1109) h2:=rC
     have wt:=GP.start (V:=V) hA hB (Nat.le_refl _) bD (k0:=(tk+7)) (e0:=1)
     refine GP.all_loop (V:=V) rfl _ _ _ 8 _ h2 (j+9+1) (tk+8+2) _ wt (by rw [<- hC];show (g0.push _)[g0.size]?=_;simp;rfl) (mc zp rfl) rfl rD rfl rfl rfl ?_
     intro h' g' m' j' aF vf aJ a0 a1 a2
     refine ⟨_,rfl,?_⟩
     have cA:=aJ.cast (E':=E2 (W2 w b1 b2)) rfl rfl
     have sm:sel m' [0,1,2]=[(a+1109,ah da es ep),(b+1109,ah db fs fp),(975,cJ ((j+7)+1109))]:=eA (by rw [List.map_cons,List.map_cons,List.map_cons,a0,a1,a2];rfl)
     have jg:=cA.pick [0,1,2] 3 (by decide) (by decide) (Nat.le_refl _) (by rw [sm];rfl)
     rw [sm] at jg
     have sub0:=jg.sub [0] (an rfl) (by decide)
     exact qs w b1 b2 (g0.push (.fresh C)) g0.size a b da db ep fp cd es fs bb fe pe f1 p1 f2 p2 p3 j tk p (Nat.le_refl _) _ j' aF (fun h4 g4 gG zr=>fin ((j+7)) j' aF h4 g4 gG (jg.join' [0] (by decide) rfl zr rfl)) h' g' vf sub0
    clear K2
    subst ao
    simp only [Prod.mk.injEq] at hq
    obtain ⟨_,_,Hh,zt,Hi,Mz,MA,Hj⟩:=hq
    have t0:=em Hi
    generalize bt (W2 w b1 b2) (g0.push (.fresh C)) g0.size a b da db ep fp cd es fs bb fe pe f1 p1 f2 p2 p3 j tk p=o at *
    obtain ⟨⟨Γ,p',κ,t,mm,nn,aF⟩,L,R',A'⟩:=o
    dsimp only at *
    subst Hj
    rcases κ with _ | ⟨f,_ | ⟨f',κ⟩⟩
    ·cases zt
    ·rw [t0]
     refine ⟨rfl,?_⟩
     rw [Hh]
     refine wpCode_mono ?_ W
     rintro r s' ⟨v,rfl,H⟩
     exact H
    ·cases zt
  have nx:=next h1 (g0.push (.fresh C)) rfl (aa.sub [0] (an rfl) (by decide)|>.cast rfl rfl)
  clear K2 next
  generalize ee true (W2 w b1 b2) a b da db ep fp cd es fs bb fe pe f1 p1 f2 p2 p3 j tk p=o at *
  obtain ⟨⟨Γ,p',κ,t,mm,nn,aF⟩,L,R',A'⟩:=o
  dsimp only at *
  subst e1 e6
  obtain rfl:=List.length_eq_zero_iff.mp e2
  rw [c0]
  exact nx
noncomputable def rO (w:World) (b1 b2:Bool) (g0:Array GenState) (a b da db ep fp cd:Nat) (es fs:Array DictEntry) (bb:Bool) (fe:FN) (pe:Pos) (f1:FL) (p1:Pos) (f2:FN) (p2 p3:Pos) (j tk:Nat) (p:Pos) (c:Code) (h₀:Heap) (d:Drawn) (os:OsState):GP:=
 {w,b1,b2,gn:=g0.size,a,b,C:=j+5,cs:=j+1,co:=j+2,cd:=cd,tit:=j+4,tup:=j+3,g:=j+6,da,db,ep,fp,es,fs,go:=fu g0.size vb vc (tk+1) (tk+1+1),x5:=cJ (cd+1109),k0:=0,bb,f0:=kT (W2 w b1 b2) j,fe,f1,f2,
  p0:=va (aZ (W2 w b1 b2) (g0.push (.fresh c)) g0.size a b da db ep fp cd es fs bb fe pe f1 p1 f2 p2 p3 j tk p).c.Γ.below,pe,p1,p2,p3,h₀,K:=3,d,os}
theorem jI {os:OsState}(hA:Z es A) (hB:Z fs B) (bD:A≠[]) {R:Result->Shared->Prop}
  (fin:∀ (md j' aF:Nat) h g,AllBare g->ag (Ae w b1 b2) h₀ 3 [Ak a da es ep,Ak b db fs fp,(975,Ba md)] (j'+1109) h->R (.ok (.ret (.bool (((A++B).map fun x=>ct A x.1==ct B x.1).all id)))) ⟨h,g,d,aF,os⟩):
  am (Ae w b1 b2) h₀ 3 R d os ⟨zo a b bb fe pe f1 p1 f2 p2 p3,p,[],den (EQ a b),[Ak a da es ep,Ak b db fs fp,(975,@Bool.rec (fun _=>Obj) (Ba cd) (BL w b1 b2) false)],j+1109,tk⟩:=by
 have hf:=n5 w b1 b2 a b da db ep fp cd es fs bb fe pe f1 p1 f2 p2 p3 j tk p
 refine dj rfl 140 .nil (Hg false) _ ⟨(Prod.ext_iff.mp hf).1,?_⟩ trivial ?_
 ·have:=(Prod.ext_iff.mp (Prod.ext_iff.mp hf).2).1
  dsimp only at this
  show cu (ee false (W2 w b1 b2) a b da db ep fp cd es fs bb fe pe f1 p1 f2 p2 p3 j tk p).A []
  rw [List.length_eq_zero_iff.mp this];trivial
 ·show am _ h₀ 3 R d os (ee false (W2 w b1 b2) a b da db ep fp cd es fs bb fe pe f1 p1 f2 p2 p3 j tk p).c
  have K2:=fun g1 gn=>n6 w b1 b2 g1 gn a b da db ep fp cd es fs bb fe pe f1 p1 f2 p2 p3 j tk p
  intro h1 g0 zp aj
  simp only [Prod.mk.injEq] at hf
  obtain ⟨_,_,e1,e2,e3,e4,e5,e6⟩:=hf
  have aa:=aj.pick [0,1,2,8,4,5,7,6] 3 (by decide) (by decide) (Nat.le_refl _) (by rw [e4];rfl)
  rw [e4,e5] at aa
  have c0:=qp e3
  generalize hC:qn (W2 w b1 b2) (j+4+1109) (gi (W2 w b1 b2) (j+5+1109) (j+1+1109) (j+2+1109) (cd+1109))=C at *
  -- the way on,behind the new generator
  have next:am (Ex (W2 w b1 b2) (g0.push (.fresh C))) h1 1 R d os ⟨⟨fn (kT (W2 w b1 b2) j),none,none,iU bb fe pe f1 p1 f2 p2 p3,none⟩,(ee false (W2 w b1 b2) a b da db ep fp cd es fs bb fe pe f1 p1 f2 p2 p3 j tk p).c.p,[],qo (ee false (W2 w b1 b2) a b da db ep fp cd es fs bb fe pe f1 p1 f2 p2 p3 j tk p).c.t g0.size,[(a+1109,ah da es ep)],j+1115,tk+1⟩:=by
   have hq:=K2 (g0.push (.fresh C)) g0.size
   refine dj rfl 60 .nil [0,0,2,2,0,2,0,2,3] _ ⟨(Prod.ext_iff.mp hq).1,?_⟩ trivial ?_
   ·have:=(Prod.ext_iff.mp (Prod.ext_iff.mp hq).2).1
    dsimp only at this
    show cu (aZ (W2 w b1 b2) (g0.push (.fresh C)) g0.size a b da db ep fp cd es fs bb fe pe f1 p1 f2 p2 p3 j tk p).A []
    rw [List.length_eq_zero_iff.mp this];trivial
   ·show am _ h1 1 R d os (aZ (W2 w b1 b2) (g0.push (.fresh C)) g0.size a b da db ep fp cd es fs bb fe pe f1 p1 f2 p2 p3 j tk p).c
    intro h2 g2 ao aS
    have ao:g2=g0.push (.fresh C):=ao
    let V:=rO w b1 b2 g0 a b da db ep fp cd es fs bb fe pe f1 p1 f2 p2 p3 j tk p C h₀ d os
    have W:wpCode (Mo V.E) (mN (j+6) (kT (W2 w b1 b2) j) (va (aZ (W2 w b1 b2) (g0.push (.fresh C)) g0.size a b da db ep fp cd es fs bb fe pe f1 p1 f2 p2 p3 j tk p).c.Γ.below) bb fe pe f1 p1 f2 p2 p3)
      (fun r s'=>∃ v,r=.ok (.ret (.bool v))/\Wc (Mo V.E) R ⟨D4 (aZ (W2 w b1 b2) (g0.push (.fresh C)) g0.size a b da db ep fp cd es fs bb fe pe f1 p1 f2 p2 p3 j tk p).c.κ,D5 (aZ (W2 w b1 b2) (g0.push (.fresh C)) g0.size a b da db ep fp cd es fs bb fe pe f1 p1 f2 p2 p3 j tk p).c.κ,[],D6 (aZ (W2 w b1 b2) (g0.push (.fresh C)) g0.size a b da db ep fp cd es fs bb fe pe f1 p1 f2 p2 p3 j tk p).c.κ (.ok (.ret (.bool v))),[(a+1109,ah da es ep)],0,0⟩ s')
      (aZ (W2 w b1 b2) (g0.push (.fresh C)) g0.size a b da db ep fp cd es fs bb fe pe f1 p1 f2 p2 p3 j tk p).c.p ⟨h2,g0.push (.fresh C),d,tk+1+2,os⟩:=by
     have rA:=(aa.cast (E':=V.E) rfl rfl)
     have rB:ag V.E h1 1 [(a+1109,ah da es ep),(j+6+1109,fu g0.size vb vc (tk+1) (tk+1+1))] (j+1115+1) h2:=by
      have zq:=hq
      simp only [Prod.mk.injEq] at zq
      obtain ⟨_,_,_,_,_,f5,f6,_⟩:=zq
      rw [f5,f6] at aS
      exact aS.cast rfl rfl
     have rC:=rA.join' [0] (by decide) rfl rB rfl
     have rD:ag V.E V.h₀ V.K (V.M0 (aN [ak (W2 w b1 b2) ma tk (.ref (j+4+1109))] 1)) (j+6+1+1109) h2:=rC
     have wt:=GP.start (V:=V) hA hB (Nat.le_refl _) bD (k0:=tk) (e0:=1)
     refine GP.all_loop (V:=V) rfl _ _ _ 8 _ h2 (j+6+1) (tk+1+2) _ wt (by rw [<- hC];show (g0.push _)[g0.size]?=_;simp;rfl) (mc zp rfl) rfl rD rfl rfl rfl ?_
     intro h' g' m' j' aF vf aJ a0 a1 a2
     refine ⟨_,rfl,?_⟩
     have cA:=aJ.cast (E':=E2 (W2 w b1 b2)) rfl rfl
     have sm:sel m' [0,1,2]=[(a+1109,ah da es ep),(b+1109,ah db fs fp),(975,cJ (cd+1109))]:=eA (by rw [List.map_cons,List.map_cons,List.map_cons,a0,a1,a2];rfl)
     have jg:=cA.pick [0,1,2] 3 (by decide) (by decide) (Nat.le_refl _) (by rw [sm];rfl)
     rw [sm] at jg
     have sub0:=jg.sub [0] (an rfl) (by decide)
     exact n7 w b1 b2 (g0.push (.fresh C)) g0.size a b da db ep fp cd es fs bb fe pe f1 p1 f2 p2 p3 j tk p (Nat.le_refl _) _ j' aF (fun h4 g4 gG zr=>fin (cd) j' aF h4 g4 gG (jg.join' [0] (by decide) rfl zr rfl)) h' g' vf sub0
    clear K2
    subst ao
    simp only [Prod.mk.injEq] at hq
    obtain ⟨_,_,Hh,zt,Hi,Mz,MA,Hj⟩:=hq
    have t0:=em Hi
    generalize aZ (W2 w b1 b2) (g0.push (.fresh C)) g0.size a b da db ep fp cd es fs bb fe pe f1 p1 f2 p2 p3 j tk p=o at *
    obtain ⟨⟨Γ,p',κ,t,mm,nn,aF⟩,L,R',A'⟩:=o
    dsimp only at *
    subst Hj
    rcases κ with _ | ⟨f,_ | ⟨f',κ⟩⟩
    ·cases zt
    ·rw [t0]
     refine ⟨rfl,?_⟩
     rw [Hh]
     refine wpCode_mono ?_ W
     rintro r s' ⟨v,rfl,H⟩
     exact H
    ·cases zt
  have nx:=next h1 (g0.push (.fresh C)) rfl (aa.sub [0] (an rfl) (by decide)|>.cast rfl rfl)
  clear K2 next
  generalize ee false (W2 w b1 b2) a b da db ep fp cd es fs bb fe pe f1 p1 f2 p2 p3 j tk p=o at *
  obtain ⟨⟨Γ,p',κ,t,mm,nn,aF⟩,L,R',A'⟩:=o
  dsimp only at *
  subst e1 e6
  obtain rfl:=List.length_eq_zero_iff.mp e2
  rw [c0]
  exact nx
end
noncomputable abbrev Ah:=fun a b c d=>de (.int a b) (.int c d)
noncomputable abbrev Am:=fun a b c d e f g h i j k l=>(⟨(ax (ai a 1043 2) (b+1109) (b6 a 1043 (c+1109))),none,none,[(fn d,e),(fl f,g),(fl h,i),(fn j,k),(CC,l)],none⟩:Ctx)
noncomputable abbrev Az:=fun a b c d=>ak a bY b (.int c d)
noncomputable abbrev AC:=fun a b c d=>ak a c5 b (.int c d)
noncomputable abbrev AK:=fun a b c=>ak a cz b c
noncomputable abbrev AM:=fun a b c d e=>((a+1109,Ah b c d e):Addr×Obj)
noncomputable abbrev AT:=fun a b c=>ak a br b (Aa c)
noncomputable abbrev AZ:=fun a b c d e=>((a+1109,(Ah b c d e)):Addr×Obj)
noncomputable abbrev Bh:=fun a b c=>ic (cn (ai a 1043 2)) (Aa b) [(az a 1043 2 0)] (b6 a 1043 (c+1109))
noncomputable abbrev Bz:=fun a b c=>ak a cZ b c
noncomputable abbrev BK:=fun a b c=>ak a bG b c
noncomputable abbrev BO:=fun a b c d=>AK a b (.int c d)
theorem zu {d:Drawn}{os:OsState}(w:World) (b1 b2:Bool) (j tk:Nat) (l it e0:Nat) (kv vv ov:Int) (t1 t2 t3 k1 k2 k3 k4 k5 k6 k7:Nat) (q1 q2 q3 q4 q5 q6 q7:Value) (b db t fp:Nat) (fs:Array DictEntry) (f0:FN) (p0:Pos) (f1 f2:FL) (f3:FN) (p1 p2 p3 p4:Pos) (dX:IntKeys fs) (bZ:findBy Value.isInt fs kv=some (.int ov t3)):
  Qw w b1 b2 d os fun W=>⟨E2 W,3,(Am W it l f0 p0 f1 p1 f2 p2 f3 p3 p4),Bh W t l,[Ak b db fs fp,(l+1109,aN [BK W k1 q1,AT W k2 b,Bz W k3 q3] e0),AM t kv t1 vv t2],j+1109,tk,.u (bK 0 (b+1109) (ah db fs fp) fs fp rfl dX kv (.int ov t3) bZ)<| .e (.e (.done .next) [A9 b db fs fp,(l+1109,aN [BK W k1 q1,AT W k2 b,Bz W k3 q3,Az W tk kv t1,AC W (tk+1) vv t2,BO W (tk+3) ov t3] (e0+3)),AZ t kv t1 vv t2] (j+1112) (tk+4))⟩:=bU 94 (Hx 0x11010000101000122222264434404044434404044434404044030333) [[2,2]] [] (by kernel_rfl)
theorem zv {d:Drawn}{os:OsState}(w:World) (b1 b2:Bool) (j tk:Nat) (l it e0:Nat) (kv vv ov:Int) (t1 t2 t3 k1 k2 k3 k4 k5 k6 k7:Nat) (q1 q2 q3 q4 q5 q6 q7:Value) (b db t fp:Nat) (fs:Array DictEntry) (f0:FN) (p0:Pos) (f1 f2:FL) (f3:FN) (p1 p2 p3 p4:Pos) (dX:IntKeys fs) (bZ:findBy Value.isInt fs kv=none):
  Qw w b1 b2 d os fun W=>⟨E2 W,3,(Am W it l f0 p0 f1 p1 f2 p2 f3 p3 p4),Bh W t l,[Ak b db fs fp,(l+1109,aN [BK W k1 q1,AT W k2 b,Bz W k3 q3] e0),AM t kv t1 vv t2],j+1109,tk,.u (cD 0 (b+1109) (ah db fs fp) fs fp 1093 rfl rfl dX kv bZ)<| .e (.e (.done .next) [A9 b db fs fp,(l+1109,aN [BK W k1 q1,AT W k2 b,Bz W k3 q3,Az W tk kv t1,AC W (tk+1) vv t2,AK W (tk+6) (.int 0 (tk+5))] (e0+3)),AZ t kv t1 vv t2] (j+1113) (tk+7))⟩:=bU 119 (Hx 0x11010000101000122222264434404044434404044434404044030333) [(Hx 0x12200777700000001)] [] (by kernel_rfl)
noncomputable abbrev BB:=fun a b c=>ak a c5 b c
noncomputable abbrev BQ:=fun a b c=>ak a ft b c
theorem zw {d:Drawn}{os:OsState}(w:World) (b1 b2:Bool) (j tk:Nat) (l it e0:Nat) (kv vv ov:Int) (t1 t2 t3 k1 k2 k3 k4 k5 k6 k7:Nat) (q1 q2 q3 q4 q5 q6 q7:Value) (b db t fp:Nat) (fs:Array DictEntry) (f0:FN) (p0:Pos) (f1 f2:FL) (f3:FN) (p1 p2 p3 p4:Pos) (dX:IntKeys fs) (bZ:findBy Value.isInt fs kv=some (.int ov t3)):
  Qw w b1 b2 d os fun W=>⟨E2 W,3,(Am W it l f0 p0 f1 p1 f2 p2 f3 p3 p4),Bh W t l,[Ak b db fs fp,(l+1109,aN [BK W k1 q1,AT W k2 b,Bz W k3 q3,ak W bY k4 q4,BB W k5 q5,AK W k6 q6,BQ W k7 q7] e0),AM t kv t1 vv t2],j+1109,tk,.u (bK 0 (b+1109) (ah db fs fp) fs fp rfl dX kv (.int ov t3) bZ)<| .e (.e (.done .next) [A9 b db fs fp,(l+1109,aN [BK W k1 q1,AT W k2 b,Bz W k3 q3,Az W k4 kv t1,AC W k5 vv t2,BO W k6 ov t3,BQ W k7 q7] e0),AZ t kv t1 vv t2] (j+1112) (tk+4))⟩:=bU 94 (Hx 0x11010000101000122222264434404044434404044434404044030333) [[2,2]] [] (by kernel_rfl)
theorem zx {d:Drawn}{os:OsState}(w:World) (b1 b2:Bool) (j tk:Nat) (l it e0:Nat) (kv vv ov:Int) (t1 t2 t3 k1 k2 k3 k4 k5 k6 k7:Nat) (q1 q2 q3 q4 q5 q6 q7:Value) (b db t fp:Nat) (fs:Array DictEntry) (f0:FN) (p0:Pos) (f1 f2:FL) (f3:FN) (p1 p2 p3 p4:Pos) (dX:IntKeys fs) (bZ:findBy Value.isInt fs kv=none):
  Qw w b1 b2 d os fun W=>⟨E2 W,3,(Am W it l f0 p0 f1 p1 f2 p2 f3 p3 p4),Bh W t l,[Ak b db fs fp,(l+1109,aN [BK W k1 q1,AT W k2 b,Bz W k3 q3,ak W bY k4 q4,BB W k5 q5,AK W k6 q6,BQ W k7 q7] e0),AM t kv t1 vv t2],j+1109,tk,.u (cD 0 (b+1109) (ah db fs fp) fs fp 1093 rfl rfl dX kv bZ)<| .e (.e (.done .next) [A9 b db fs fp,(l+1109,aN [BK W k1 q1,AT W k2 b,Bz W k3 q3,Az W k4 kv t1,AC W k5 vv t2,AK W k6 (.int 0 (tk+5)),BQ W k7 q7] e0),AZ t kv t1 vv t2] (j+1113) (tk+7))⟩:=bU 119 (Hx 0x11010000101000122222264434404044434404044434404044030333) [(Hx 0x12200777700000001)] [] (by kernel_rfl)
noncomputable abbrev B1:=fun a b=>b6 a 1043 (b+1109)
theorem zy {d:Drawn}{os:OsState}(w:World) (b1 b2:Bool) (j tk:Nat) (l it e0:Nat) (kv vv ov:Int) (t1 t2 t3 k1 k2 k3 k4 k5 k6 k7:Nat) (q1 q2 q3 q4 q5 q6 q7:Value)(f0:FN) (p0:Pos) (f1 f2:FL) (f3:FN) (p1 p2 p3 p4:Pos) (cv:decide (vv < ov)=true):
  Qw w b1 b2 d os fun W=>⟨E2 W,1,(Am W it l f0 p0 f1 p1 f2 p2 f3 p3 p4),c9 [(az W 1043 2 1)] (B1 W l),[(l+1109,aN [BK W k1 q1,ak W br k2 q2,Bz W k3 q3,Az W k4 kv t1,AC W k5 vv t2,BO W k6 ov t3] e0)],j+1109,tk,.u (DG vv ov true cv)<| .e (.e (.done .next) [(l+1109,aN [BK W k1 q1,ak W br k2 q2,Bz W k3 q3,Az W k4 kv t1,AC W k5 vv t2,BO W k6 ov t3,BQ W tk (.int vv t2)] (e0+1))] (j+1109) (tk+1))⟩:=bU 25 [1,1,0,1] [[1,1,1]] [] (by kernel_rfl)
theorem zz {d:Drawn}{os:OsState}(w:World) (b1 b2:Bool) (j tk:Nat) (l it e0:Nat) (kv vv ov:Int) (t1 t2 t3 k1 k2 k3 k4 k5 k6 k7:Nat) (q1 q2 q3 q4 q5 q6 q7:Value)(f0:FN) (p0:Pos) (f1 f2:FL) (f3:FN) (p1 p2 p3 p4:Pos) (cv:decide (vv < ov)=false):
  Qw w b1 b2 d os fun W=>⟨E2 W,1,(Am W it l f0 p0 f1 p1 f2 p2 f3 p3 p4),c9 [(az W 1043 2 1)] (B1 W l),[(l+1109,aN [BK W k1 q1,ak W br k2 q2,Bz W k3 q3,Az W k4 kv t1,AC W k5 vv t2,BO W k6 ov t3] e0)],j+1109,tk,.u (DG vv ov false cv)<| .e (.e (.done .next) [(l+1109,aN [BK W k1 q1,ak W br k2 q2,Bz W k3 q3,Az W k4 kv t1,AC W k5 vv t2,BO W k6 ov t3,BQ W tk (.int ov t3)] (e0+1))] (j+1109) (tk+1))⟩:=bU 25 [1,1,0,1] [[1,1,1]] [] (by kernel_rfl)
theorem zA {d:Drawn}{os:OsState}(w:World) (b1 b2:Bool) (j tk:Nat) (l it e0:Nat) (kv vv ov:Int) (t1 t2 t3 k1 k2 k3 k4 k5 k6 k7:Nat) (q1 q2 q3 q4 q5 q6 q7:Value)(f0:FN) (p0:Pos) (f1 f2:FL) (f3:FN) (p1 p2 p3 p4:Pos) (cv:decide (vv < ov)=true):
  Qw w b1 b2 d os fun W=>⟨E2 W,1,(Am W it l f0 p0 f1 p1 f2 p2 f3 p3 p4),c9 [(az W 1043 2 1)] (B1 W l),[(l+1109,aN [BK W k1 q1,ak W br k2 q2,Bz W k3 q3,Az W k4 kv t1,AC W k5 vv t2,BO W k6 ov t3,BQ W k7 q7] e0)],j+1109,tk,.u (DG vv ov true cv)<| .e (.e (.done .next) [(l+1109,aN [BK W k1 q1,ak W br k2 q2,Bz W k3 q3,Az W k4 kv t1,AC W k5 vv t2,BO W k6 ov t3,BQ W k7 (.int vv t2)] e0)] (j+1109) (tk+1))⟩:=bU 25 [1,1,0,1] [[1,1,1]] [] (by kernel_rfl)
theorem zB {d:Drawn}{os:OsState}(w:World) (b1 b2:Bool) (j tk:Nat) (l it e0:Nat) (kv vv ov:Int) (t1 t2 t3 k1 k2 k3 k4 k5 k6 k7:Nat) (q1 q2 q3 q4 q5 q6 q7:Value)(f0:FN) (p0:Pos) (f1 f2:FL) (f3:FN) (p1 p2 p3 p4:Pos) (cv:decide (vv < ov)=false):
  Qw w b1 b2 d os fun W=>⟨E2 W,1,(Am W it l f0 p0 f1 p1 f2 p2 f3 p3 p4),c9 [(az W 1043 2 1)] (B1 W l),[(l+1109,aN [BK W k1 q1,ak W br k2 q2,Bz W k3 q3,Az W k4 kv t1,AC W k5 vv t2,BO W k6 ov t3,BQ W k7 q7] e0)],j+1109,tk,.u (DG vv ov false cv)<| .e (.e (.done .next) [(l+1109,aN [BK W k1 q1,ak W br k2 q2,Bz W k3 q3,Az W k4 kv t1,AC W k5 vv t2,BO W k6 ov t3,BQ W k7 (.int ov t3)] e0)] (j+1109) (tk+1))⟩:=bU 25 [1,1,0,1] [[1,1,1]] [] (by kernel_rfl)
noncomputable abbrev Af:=fun a b c d e f g h i j k l m n=>(⟨(ax (ai (W2 a b c) 1043 2) (d+1109) (b6 (W2 a b c) 1043 (e+1109))),none,none,[(fn f,g),(fl h,i),(fl j,k),(fn l,m),(CC,n)],none⟩:Ctx)
noncomputable abbrev Aq:=fun a b c d e f g h i j k l m n o p q r s t u v=>aN [ak (W2 a b c) bG d e,ak (W2 a b c) br f g,ak (W2 a b c) cZ h (Aa i),ak (W2 a b c) bY j (.int k l),ak (W2 a b c) c5 m (.int n o),ak (W2 a b c) cz p (.int q r),ak (W2 a b c) ft s (.int t u)] v
noncomputable abbrev Bs:=fun a b c d e f g h=>((a+1109,ah b (dy c d (.int d e) (.int f g)) ((cC c h d))):Addr×Obj)
theorem D7 {d:Drawn}{os:OsState}(w:World) (b1 b2:Bool) (j tk:Nat) (l it e0:Nat) (kv vv ov:Int) (t1 t2 t3 k1 k2 k3 k4 k5 k6 k7:Nat) (q1 q2 q3 q4 q5 q6 q7:Value) (c dc rp t4:Nat) (nv:Int) (rs:Array DictEntry) (f0:FN) (p0:Pos) (f1 f2:FL) (f3:FN) (p1 p2 p3 p4:Pos) (dC:decide (nv>0)=true) (bL:IntKeys rs) (aG:rs.size<=sizeLine) (kO:gP (Ae w b1 b2) (ah dc rs rp)):
  Pw w b1 b2 d os 2 (Af w b1 b2 it l f0 p0 f1 p1 f2 p2 f3 p3 p4) (c9 [(az (W2 w b1 b2) 1043 2 2)] (B1 (W2 w b1 b2) l)) [(l+1109,Aq w b1 b2 k1 q1 k2 q2 k3 c k4 kv t1 k5 vv t2 k6 ov t3 k7 nv t4 e0),Ak c dc rs rp] (j+1109) tk (.u (jz nv 0 true dC)<| .u (d8 1 (c+1109) (ah dc rs rp) rs rp rfl bL aG kO kv (.int nv 0))<| .e (.e (.done .next) [(l+1109,(Aq w b1 b2 k1 q1 k2 q2 k3 c k4 kv t1 k5 vv t2 k6 ov t3 k7 nv t4 e0)),Bs c dc rs kv t1 nv t4 rp] (j+1109) (tk+2))):=by
 cases b1<;>exact pc 34 [1,0,1] [(Hx 0x11020000202111),[]] [] (by kernel_rfl)
theorem D8 {d:Drawn}{os:OsState}(w:World) (b1 b2:Bool) (j tk:Nat) (l it e0:Nat) (kv vv ov:Int) (t1 t2 t3 k1 k2 k3 k4 k5 k6 k7:Nat) (q1 q2 q3 q4 q5 q6 q7:Value) (c dc rp t4:Nat) (nv:Int) (rs:Array DictEntry) (f0:FN) (p0:Pos) (f1 f2:FL) (f3:FN) (p1 p2 p3 p4:Pos) (dC:decide (nv>0)=false) (bL:IntKeys rs) (aG:rs.size<=sizeLine) (kO:gP (Ae w b1 b2) (ah dc rs rp)):
  Pw w b1 b2 d os 2 (Af w b1 b2 it l f0 p0 f1 p1 f2 p2 f3 p3 p4) (c9 [(az (W2 w b1 b2) 1043 2 2)] (B1 (W2 w b1 b2) l)) [(l+1109,Aq w b1 b2 k1 q1 k2 q2 k3 c k4 kv t1 k5 vv t2 k6 ov t3 k7 nv t4 e0),Ak c dc rs rp] (j+1109) tk (.u (jz nv 0 false dC)<| .e (.e (.done .next) [(l+1109,(Aq w b1 b2 k1 q1 k2 q2 k3 c k4 kv t1 k5 vv t2 k6 ov t3 k7 nv t4 e0)),A9 c dc rs rp] (j+1109) (tk+1))):=by
 cases b1<;>exact pc 15 [1,0,1] [[]] [] (by kernel_rfl)
section
variable {E:En}{L r:KV}{a b c da db dc ep fp i it j Y l n rp t tk:Nat}{es fs rs:Array DictEntry}{f0 f3:FN}{f1 f2:FL}{h h₀:Heap}{kv nv ov vv:Int}{m:Mm}{ns o:Obj}{p0 p1 p2 p3 p4 aI:Pos}{qa qb qc:Value}{t1:Tok}
section
variable {d:Drawn}{os:OsState}{h₀:Heap}{Y:Nat}
inductive jh (W:World) (qa qb qc:Value):Obj->Prop
 | f {k1 k2 k3 e0:Nat}:jh W qa qb qc (aN [ak W bG k1 qa,ak W br k2 qb,ak W cZ k3 qc] e0)
 | l {k1 k2 k3 k4 k5 k6 k7:Nat}{q4 q5 q6 q7:Value}{e0:Nat}:jh W qa qb qc (aN [ak W bG k1 qa,ak W br k2 qb,ak W cZ k3 qc,ak W bY k4 q4,ak W c5 k5 q5,ak W cz k6 q6,ak W ft k7 q7] e0)
inductive n8 (W:World) (qa qb qc:Value) (kv vv ov:Int):Obj->Prop
 | f {k1 k2 k3 k4 k5 k6 t1 t2 t3 e0:Nat}:n8 W qa qb qc kv vv ov (aN [ak W bG k1 qa,ak W br k2 qb,ak W cZ k3 qc,ak W bY k4 (.int kv t1),ak W c5 k5 (.int vv t2),ak W cz k6 (.int ov t3)] e0)
 | l {k1 k2 k3 k4 k5 k6 k7 t1 t2 t3:Nat}{q7:Value}{e0:Nat}:n8 W qa qb qc kv vv ov (aN [ak W bG k1 qa,ak W br k2 qb,ak W cZ k3 qc,ak W bY k4 (.int kv t1),ak W c5 k5 (.int vv t2),ak W cz k6 (.int ov t3),ak W ft k7 q7] e0)
inductive rP (W:World) (qa qb qc:Value) (kv nv:Int):Obj->Prop
 | mk {k1 k2 k3 k4 k5 k6 k7:Nat}{vv ov:Int}{t1 t2 t3 t4 e0:Nat}:rP W qa qb qc kv nv (aN [ak W bG k1 qa,ak W br k2 qb,ak W cZ k3 qc,ak W bY k4 (.int kv t1),ak W c5 k5 (.int vv t2),ak W cz k6 (.int ov t3),ak W ft k7 (.int nv t4)] e0)
noncomputable abbrev A6:=fun a b=>((a+1109,b):Addr×Obj)
theorem zC (w:World) (b1 b2:Bool) {R:Result->Shared->Prop}{F:KV}{t2:Tok}
  (hF:Z fs F) (aq:jh (W2 w b1 b2) qa (Aa b) qc ns) (hk:Y<=3)
  (fin:∀ j' aF aQ p h g,j<=j'->n8 (W2 w b1 b2) qa (Aa b) qc kv vv (ct F kv) aQ->AllBare g->ag (Ae w b1 b2) h₀ Y [Ak b db fs fp,A6 l aQ,AM t kv t1 vv t2] (j'+1109) h->dx (Ae w b1 b2) R (Af w b1 b2 it l f0 p0 f1 p1 f2 p2 f3 p3 p4) (.done .next) p ⟨h,g,d,aF,os⟩):
  am (Ae w b1 b2) h₀ Y R d os ⟨(Af w b1 b2 it l f0 p0 f1 p1 f2 p2 f3 p3 p4),aI,[],
   (ic (cn (ai (W2 w b1 b2) 1043 2)) (Aa t) [(az (W2 w b1 b2) 1043 2 0)] (B1 (W2 w b1 b2) l)),[Ak b db fs fp,A6 l ns,AM t kv t1 vv t2],j+1109,tk⟩:=by
 rcases hF.get kv with ⟨ov,t3,e1,e2⟩ | ⟨e1,e2⟩
 ·have ec:ct F kv=ov:=by unfold ct;rw [e1];rfl
  rw [ec] at fin
  induction aq with | @f k1 k2 k3 e0=>?_ | @l k1 k2 k3 k4 k5 k6 k7 q4 q5 q6 q7 e0=>?_
  ·exact zu w b1 b2 j tk l it e0 kv vv ov t1 t2 t3 k1 k2 k3 0 0 0 0 qa .none qc .none .none .none .none b db t fp fs f0 p0 f1 f2 f3 p1 p2 p3 p4 hF.keys e2 aI hk fun p h g hg hr=>fin (j+3) _ _ p h g (by lia) .f hg hr
  ·exact zw w b1 b2 j tk l it e0 kv vv ov t1 t2 t3 k1 k2 k3 k4 k5 k6 k7 qa .none qc q4 q5 q6 q7 b db t fp fs f0 p0 f1 f2 f3 p1 p2 p3 p4 hF.keys e2 aI hk fun p h g hg hr=>fin (j+3) _ _ p h g (by lia) .l hg hr
 ·have ec:ct F kv=0:=by unfold ct;rw [e1];rfl
  rw [ec] at fin
  induction aq with | @f k1 k2 k3 e0=>?_ | @l k1 k2 k3 k4 k5 k6 k7 q4 q5 q6 q7 e0=>?_
  ·exact zv w b1 b2 j tk l it e0 kv vv 0 t1 t2 0 k1 k2 k3 0 0 0 0 qa .none qc .none .none .none .none b db t fp fs f0 p0 f1 f2 f3 p1 p2 p3 p4 hF.keys e2 aI hk fun p h g hg hr=>fin (j+4) _ _ p h g (by lia) .f hg hr
  ·exact zx w b1 b2 j tk l it e0 kv vv 0 t1 t2 0 k1 k2 k3 k4 k5 k6 k7 qa .none qc q4 q5 q6 q7 b db t fp fs f0 p0 f1 f2 f3 p1 p2 p3 p4 hF.keys e2 aI hk fun p h g hg hr=>fin (j+4) _ _ p h g (by lia) .l hg hr
theorem zD (w:World) (b1 b2:Bool) {R:Result->Shared->Prop}
  (aq:n8 (W2 w b1 b2) qa qb qc kv vv ov ns) (hk:Y<=1)
  (fin:∀ aF aQ p h g,rP (W2 w b1 b2) qa qb qc kv (if vv < ov then vv else ov) aQ->AllBare g->ag (Ae w b1 b2) h₀ Y [A6 l aQ] (j+1109) h->dx (Ae w b1 b2) R (Af w b1 b2 it l f0 p0 f1 p1 f2 p2 f3 p3 p4) (.done .next) p ⟨h,g,d,aF,os⟩):
  am (Ae w b1 b2) h₀ Y R d os ⟨(Af w b1 b2 it l f0 p0 f1 p1 f2 p2 f3 p3 p4),aI,[],
   (c9 [(az (W2 w b1 b2) 1043 2 1)] (B1 (W2 w b1 b2) l)),[A6 l ns],j+1109,tk⟩:=by
 by_cases cv:vv < ov
 ·rw [if_pos cv] at fin
  have cv:=decide_eq_true cv
  induction aq with | @f k1 k2 k3 k4 k5 k6 t1 t2 t3 e0=>?_ | @l k1 k2 k3 k4 k5 k6 k7 t1 t2 t3 q7 e0=>?_
  ·exact zy w b1 b2 j tk l it e0 kv vv ov t1 t2 t3 k1 k2 k3 k4 k5 k6 0 qa qb qc .none .none .none .none f0 p0 f1 f2 f3 p1 p2 p3 p4 cv aI hk fun p h g hg hr=>fin _ _ p h g .mk hg hr
  ·exact zA w b1 b2 j tk l it e0 kv vv ov t1 t2 t3 k1 k2 k3 k4 k5 k6 k7 qa qb qc .none .none .none q7 f0 p0 f1 f2 f3 p1 p2 p3 p4 cv aI hk fun p h g hg hr=>fin _ _ p h g .mk hg hr
 ·rw [if_neg cv] at fin
  have cv:=decide_eq_false cv
  induction aq with | @f k1 k2 k3 k4 k5 k6 t1 t2 t3 e0=>?_ | @l k1 k2 k3 k4 k5 k6 k7 t1 t2 t3 q7 e0=>?_
  ·exact zz w b1 b2 j tk l it e0 kv vv ov t1 t2 t3 k1 k2 k3 k4 k5 k6 0 qa qb qc .none .none .none .none f0 p0 f1 f2 f3 p1 p2 p3 p4 cv aI hk fun p h g hg hr=>fin _ _ p h g .mk hg hr
  ·exact zB w b1 b2 j tk l it e0 kv vv ov t1 t2 t3 k1 k2 k3 k4 k5 k6 k7 qa qb qc .none .none .none q7 f0 p0 f1 f2 f3 p1 p2 p3 p4 cv aI hk fun p h g hg hr=>fin _ _ p h g .mk hg hr
theorem zE (w:World) (b1 b2:Bool) {R:Result->Shared->Prop}
  (aq:rP (W2 w b1 b2) qa qb (Aa c) kv nv ns) (hr:Z rs r) (aG:r.length<=sizeLine) (hk:Y<=2)
  (fin:∀ aF cf cS p h g,Z cf (if nv>0 then bw r kv nv else r)->AllBare g->ag (Ae w b1 b2) h₀ Y [A6 l ns,Ak c dc cf cS] (j+1109) h->dx (Ae w b1 b2) R (Af w b1 b2 it l f0 p0 f1 p1 f2 p2 f3 p3 p4) (.done .next) p ⟨h,g,d,aF,os⟩):
  am (Ae w b1 b2) h₀ Y R d os ⟨(Af w b1 b2 it l f0 p0 f1 p1 f2 p2 f3 p3 p4),aI,[],
   (c9 [(az (W2 w b1 b2) 1043 2 2)] (B1 (W2 w b1 b2) l)),[A6 l ns,Ak c dc rs rp],j+1109,tk⟩:=by
 induction aq with | @mk k1 k2 k3 k4 k5 k6 k7 vv ov t1 t2 t3 t4 e0=>?_
 have hz:rs.size<=sizeLine:=hr.size▸aG
 by_cases dC:nv>0
 ·rw [if_pos dC] at fin
  exact D7 w b1 b2 j tk l it e0 kv vv ov t1 t2 t3 k1 k2 k3 k4 k5 k6 k7 qa qb .none .none .none .none .none c dc rp t4 nv rs f0 p0 f1 f2 f3 p1 p2 p3 p4 (decide_eq_true dC) hr.keys hz (bO _ _ _ _) aI hk fun p h g hg aJ=>fin _ _ _ p h g (hr.put _ _ _ _) hg aJ
 ·rw [if_neg dC] at fin
  exact D8 w b1 b2 j tk l it e0 kv vv ov t1 t2 t3 k1 k2 k3 k4 k5 k6 k7 qa qb .none .none .none .none .none c dc rp t4 nv rs f0 p0 f1 f2 f3 p1 p2 p3 p4 (decide_eq_false dC) hr.keys hz (bO _ _ _ _) aI hk fun p h g hg aJ=>fin _ _ _ p h g hr hg aJ
noncomputable def eX (F r:KV) (x:Int×Int):KV:=let nv:=if x.2 < ct F x.1 then x.2 else ct F x.1;if nv>0 then bw r x.1 nv else r
theorem nj (F r:KV) (x:Int×Int):(eX F r x).length<=r.length+1:=by
 have z:∀ nv:Int,(if nv>0 then bw r x.1 nv else r).length<=r.length+1:=by
  intro nv
  split
  ·exact dP _ _ _
  ·lia
 exact z _
theorem nk (w:World):bj (ai w 1043 2)=[az w 1043 2 0]++[az w 1043 2 1,az w 1043 2 2]:=by kernel_rfl
theorem nl (w:World):iw (ai w 1043 2)=[]:=by kernel_rfl
theorem qt (w:World):i6 (cn (ai w 1043 2)):=fun _ _=>by kernel_rfl
noncomputable abbrev Bf:=fun a b c=>Mo (Ae a b c)
noncomputable abbrev B7:=fun a b c d e f g=>((a+1109,cy (b+1109) c d e .none f g):Addr×Obj)
theorem vg (w:World) (b1 b2:Bool) {R:Result->Shared->Prop}{F:KV}(hk:Y<=5) (hL:Z es L) (hF:Z fs F):
  ∀ (ay:KV) (i:Nat),L.drop i=ay->∀ (r:KV) (rs:Array DictEntry) (rp:Nat) (ns:Obj) (ok ov:Value) (j tk:Nat) (h:Heap) (g:Array GenState) (p:Pos),Z rs r->r.length+ay.length<=sizeLine->jh (W2 w b1 b2) (Aa a) (Aa b) (Aa c) ns->AllBare g->
   ag (Ae w b1 b2) h₀ Y [Ak a da es ep,Ak b db fs fp,A6 l ns,Ak c dc rs rp,B7 it a i es.size ep ok ov] (j+1109) h->
   (∀ j' aF cf cS aQ dF h' g',j<=j'->Z cf (ay.foldl (eX F) r)->jh (W2 w b1 b2) (Aa a) (Aa b) (Aa c) aQ->AllBare g'->ag (Ae w b1 b2) h₀ Y [Ak a da es ep,Ak b db fs fp,A6 l aQ,Ak c dc cf cS,A6 it dF] (j'+1109) h'->R (.ok .next) ⟨h',g',d,aF,os⟩)->
   wpCode (Bf w b1 b2) (Af w b1 b2 it l f0 p0 f1 p1 f2 p2 f3 p3 p4) R p ⟨h,g,d,tk,os⟩:=by
 intro ay
 induction ay with
 | nil=>
  intro i hi r rs rp ns ok ov j tk h g p hr aG aq hg al fin
  have hN:es.size<=i:=by
   rw [hL.size]
   have:=congrArg List.length hi
   simp at this;lia
  refine fS (ii:=4) (di:=0) (by show Code.forLoop _ _ _ (iw _) _=_;rw [nl]) rfl hg al rfl rfl rfl rfl hN (fun h' n' o' hn bk=>?_) p
  have:n'=(n' - 1109)+1109:=by lia
  rw [this] at bk
  exact fin (n' - 1109) tk rs rp ns o' h' g (by lia) hr aq hg bk
 | cons x ay ih=>
  intro i hi r rs rp ns ok ov j tk h g p hr aG aq hg al fin
  obtain ⟨kv,vv⟩:=x
  have hx:L[i]?=some (kv,vv):=by
   have:=congrArg (fun l=>l[0]?) hi
   simpa using this
  obtain ⟨t,u,he⟩:=hL.at hx
  refine ew (ii:=4) (di:=0) (qt _) rfl hg al rfl rfl rfl rfl he (fun zF=>d9 (nk _) ?_) p
  refine am.sub [1,2,5] rfl (by decide) rfl fun h1 aj=>?_
  refine zC w b1 b2 (j:=j+1) (t:=j) hF aq (Nat.le_refl _) fun j2 tk2 qu qw h2 g2 wl fv ao aa=>?_
  have aS:=aj.join' [1,2,5] (by decide) rfl aa rfl
  intro mO
  refine cO (l:=[az (W2 w b1 b2) 1043 2 1]) ao aS ?_
  refine am.sub [2] rfl (by decide) rfl fun h4 bc=>?_
  refine zD w b1 b2 fv (Nat.le_refl _) fun MB MC MD h5 g5 qx fY bl=>?_
  have cP:=bc.join' [2] (by decide) rfl bl rfl
  intro ME
  refine cO (l:=[az (W2 w b1 b2) 1043 2 2]) (rest:=[]) fY cP ?_
  refine am.sub [2,3] rfl (by decide) rfl fun h7 cQ=>?_
  refine zE w b1 b2 qx hr (by simp at aG;lia) (Nat.le_refl _) fun Hk Hl Hm MF h8 g8 Hn zG fw=>?_
  have eY:=cQ.join' [2,3] (by decide) rfl fw rfl
  intro zH
  show wpCode _ _ R zH _
  have gW:=eY.pick [0,1,2,3,4] 5 (by decide) (by decide) hk rfl
  have bv:L.drop (i+1)=ay:=by
   have:=congrArg List.tail hi
   simpa using this
  induction qx with | @mk k1 k2 k3 k4 k5 k6 k7 MG MH t1 t2 t3 t4 e0=>?_
  refine ih (i+1) bv _ Hl Hm _ _ _ j2 Hk h8 g8 zH Hn ?_ .l zG gW fun j' aF cf cS aQ dF h' g' lJ=>fin j' aF cf cS aQ dF h' g' (by lia)
  have:=nj F r (kv,vv)
  simp only [List.length_cons] at aG
  have e:(if (if vv < ct F kv then vv else ct F kv)>0 then bw r kv (if vv < ct F kv then vv else ct F kv) else r)=eX F r (kv,vv):=rfl
  rw [e];lia
theorem rQ (w:World) (b1 b2:Bool) {R:Result->Shared->Prop}(hk:Y<=4) (hL:Z es L):
  ∀ (ay:KV) (i:Nat),L.drop i=ay->∀ (r:KV) (rs:Array DictEntry) (rp:Nat) (ns:Obj) (ok ov:Value) (j tk:Nat) (h:Heap) (g:Array GenState) (p:Pos),Z rs r->r.length+ay.length<=sizeLine->jh (W2 w b1 b2) (Aa a) (Aa a) (Aa c) ns->AllBare g->
   ag (Ae w b1 b2) h₀ Y [Ak a da es ep,A6 l ns,Ak c dc rs rp,B7 it a i es.size ep ok ov] (j+1109) h->
   (∀ j' aF cf cS aQ dF h' g',j<=j'->Z cf (ay.foldl (eX L) r)->jh (W2 w b1 b2) (Aa a) (Aa a) (Aa c) aQ->AllBare g'->ag (Ae w b1 b2) h₀ Y [Ak a da es ep,A6 l aQ,Ak c dc cf cS,A6 it dF] (j'+1109) h'->R (.ok .next) ⟨h',g',d,aF,os⟩)->
   wpCode (Bf w b1 b2) (Af w b1 b2 it l f0 p0 f1 p1 f2 p2 f3 p3 p4) R p ⟨h,g,d,tk,os⟩:=by
 intro ay
 induction ay with
 | nil=>
  intro i hi r rs rp ns ok ov j tk h g p hr aG aq hg al fin
  have hN:es.size<=i:=by
   rw [hL.size]
   have:=congrArg List.length hi
   simp at this;lia
  refine fS (ii:=3) (di:=0) (by show Code.forLoop _ _ _ (iw _) _=_;rw [nl]) rfl hg al rfl rfl rfl rfl hN (fun h' n' o' hn bk=>?_) p
  have:n'=(n' - 1109)+1109:=by lia
  rw [this] at bk
  exact fin (n' - 1109) tk rs rp ns o' h' g (by lia) hr aq hg bk
 | cons x ay ih=>
  intro i hi r rs rp ns ok ov j tk h g p hr aG aq hg al fin
  obtain ⟨kv,vv⟩:=x
  have hx:L[i]?=some (kv,vv):=by
   have:=congrArg (fun l=>l[0]?) hi
   simpa using this
  obtain ⟨t,u,he⟩:=hL.at hx
  refine ew (ii:=3) (di:=0) (qt _) rfl hg al rfl rfl rfl rfl he (fun zF=>d9 (nk _) ?_) p
  refine am.sub [0,1,4] rfl (by decide) rfl fun h1 aj=>?_
  refine zC w b1 b2 (j:=j+1) (t:=j) hL aq (Nat.le_refl _) fun j2 tk2 qu qw h2 g2 wl fv ao aa=>?_
  have aS:=aj.join' [0,1,4] (by decide) rfl aa rfl
  intro mO
  refine cO (l:=[az (W2 w b1 b2) 1043 2 1]) ao aS ?_
  refine am.sub [1] rfl (by decide) rfl fun h4 bc=>?_
  refine zD w b1 b2 fv (Nat.le_refl _) fun MB MC MD h5 g5 qx fY bl=>?_
  have cP:=bc.join' [1] (by decide) rfl bl rfl
  intro ME
  refine cO (l:=[az (W2 w b1 b2) 1043 2 2]) (rest:=[]) fY cP ?_
  refine am.sub [1,2] rfl (by decide) rfl fun h7 cQ=>?_
  refine zE w b1 b2 qx hr (by simp at aG;lia) (Nat.le_refl _) fun Hk Hl Hm MF h8 g8 Hn zG fw=>?_
  have eY:=cQ.join' [1,2] (by decide) rfl fw rfl
  intro zH
  show wpCode _ _ R zH _
  have gW:=eY.pick [0,1,2,3] 4 (by decide) (by decide) hk rfl
  have bv:L.drop (i+1)=ay:=by
   have:=congrArg List.tail hi
   simpa using this
  induction qx with | @mk k1 k2 k3 k4 k5 k6 k7 MG MH t1 t2 t3 t4 e0=>?_
  refine ih (i+1) bv _ Hl Hm _ _ _ j2 Hk h8 g8 zH Hn ?_ .l zG gW fun j' aF cf cS aQ dF h' g' lJ=>fin j' aF cf cS aQ dF h' g' (by lia)
  have:=nj L r (kv,vv)
  simp only [List.length_cons] at aG
  have e:(if (if vv < ct L kv then vv else ct L kv)>0 then bw r kv (if vv < ct L kv then vv else ct L kv) else r)=eX L r (kv,vv):=rfl
  rw [e];lia
structure tG where
 j:Nat
 tk:Nat
 rp:Nat
 rs:Array DictEntry
 k1:Nat
 k2:Nat
 k3:Nat
 e0:Nat
 ex:List DictEntry
 it:Obj
theorem dn (r:ag E h₀ Y m n h) (e:ad m i=some (a+1109,o)):∃ j,n=j+1109:=⟨n - 1109,(Nat.sub_add_cancel (Nat.le_of_lt (Nat.lt_of_le_of_lt (Nat.le_add_left 1109 a) (r.lt e)))).symm⟩
noncomputable def JG (w:World) (b1 b2:Bool) (l it a b c da db dc ep fp k1 k2 k3 e0:Nat) (es fs:Array DictEntry) (L F:KV) (hL:Z es L) (hF:Z fs F) (aG:L.length<=sizeLine) (is:List Nat) (nd:is.Nodup) (hl:5=is.length):aL (E2 (W2 w b1 b2)) d os:=
 aL.sub tG ⟨0,0,0,#[],0,0,0,0,[],av⟩ (ax (ai (W2 w b1 b2) 1043 2) (it+1109) (b6 (W2 w b1 b2) 1043 (l+1109))) [1,2,2,1] is
  [(a+1109,ah da es ep),(b+1109,ah db fs fp),(l+1109,aN [ak (W2 w b1 b2) bG k1 (.ref (a+1109)),ak (W2 w b1 b2) br k2 (.ref (b+1109)),ak (W2 w b1 b2) cZ k3 (.ref (c+1109))] e0),(c+1109,ah dc #[] 0),(it+1109,cy (a+1109) 0 es.size ep .none .none .none)]
  nd hl (fun _=>.next) (fun x=>[(a+1109,ah da es ep),(b+1109,ah db fs fp),(l+1109,aN (ak (W2 w b1 b2) bG x.k1 (.ref (a+1109))::ak (W2 w b1 b2) br x.k2 (.ref (b+1109))::ak (W2 w b1 b2) cZ x.k3 (.ref (c+1109))::x.ex) x.e0),(c+1109,ah dc x.rs x.rp),(it+1109,x.it)]) (fun x=>x.j+1109) (fun x=>x.tk) (fun x=>Z x.rs (L.foldl (eX F) [])) (fun x=>by rw [<- hl];rfl) (by
   intro Γ h g p n tk Q aV hc hg hr k
   refine nQ aV hc fun f0 f1 f2 f3 p0 p1 p2 p3 p4=>?_
   obtain ⟨j,rfl⟩:=dn (i:=0) hr rfl
   exact vg w b1 b2 (hl▸Nat.le_refl _) hL hF L 0 rfl [] #[] 0 _ .none .none j tk h g p ei (by simpa using aG) .f hg hr fun j' aF cf cS aQ dF h' g' lJ aJ cq bQ bk=>by
    induction cq with | @f k1 k2 k3 e0=>?_ | @l k1 k2 k3 k4 k5 k6 k7 q4 q5 q6 q7 e0=>?_
    ·exact k ⟨j',aF,cS,cf,k1,k2,k3,e0,[],dF⟩ aJ h' g' bQ bk
    ·exact k ⟨j',aF,cS,cf,k1,k2,k3,e0,[_,_,_,_],dF⟩ aJ h' g' bQ bk)
noncomputable def Ho (w:World) (b1 b2:Bool) (l it a c da dc ep k1 k2 k3 e0:Nat) (es:Array DictEntry) (L:KV) (hL:Z es L) (aG:L.length<=sizeLine) (is:List Nat) (nd:is.Nodup) (hl:4=is.length):aL (E2 (W2 w b1 b2)) d os:=
 aL.sub tG ⟨0,0,0,#[],0,0,0,0,[],av⟩ (ax (ai (W2 w b1 b2) 1043 2) (it+1109) (b6 (W2 w b1 b2) 1043 (l+1109))) [1,2,2,1] is
  [(a+1109,ah da es ep),(l+1109,aN [ak (W2 w b1 b2) bG k1 (.ref (a+1109)),ak (W2 w b1 b2) br k2 (.ref (a+1109)),ak (W2 w b1 b2) cZ k3 (.ref (c+1109))] e0),(c+1109,ah dc #[] 0),(it+1109,cy (a+1109) 0 es.size ep .none .none .none)]
  nd hl (fun _=>.next) (fun x=>[(a+1109,ah da es ep),(l+1109,aN (ak (W2 w b1 b2) bG x.k1 (.ref (a+1109))::ak (W2 w b1 b2) br x.k2 (.ref (a+1109))::ak (W2 w b1 b2) cZ x.k3 (.ref (c+1109))::x.ex) x.e0),(c+1109,ah dc x.rs x.rp),(it+1109,x.it)]) (fun x=>x.j+1109) (fun x=>x.tk) (fun x=>Z x.rs (L.foldl (eX L) [])) (fun x=>by rw [<- hl];rfl) (by
   intro Γ h g p n tk Q aV hc hg hr k
   refine nQ aV hc fun f0 f1 f2 f3 p0 p1 p2 p3 p4=>?_
   obtain ⟨j,rfl⟩:=dn (i:=0) hr rfl
   exact rQ w b1 b2 (hl▸Nat.le_refl _) hL L 0 rfl [] #[] 0 _ .none .none j tk h g p ei (by simpa using aG) .f hg hr fun j' aF cf cS aQ dF h' g' lJ aJ cq bQ bk=>by
    induction cq with | @f k1 k2 k3 e0=>?_ | @l k1 k2 k3 k4 k5 k6 k7 q4 q5 q6 q7 e0=>?_
    ·exact k ⟨j',aF,cS,cf,k1,k2,k3,e0,[],dF⟩ aJ h' g' bQ bk
    ·exact k ⟨j',aF,cS,cf,k1,k2,k3,e0,[_,_,_,_],dF⟩ aJ h' g' bQ bk)
end
end
noncomputable abbrev Ac:=fun a b c d=>((a+1109,ah (b+1109) c d):Addr×Obj)
noncomputable abbrev Aj:=fun a=>((a+1109,av):Addr×Obj)
theorem D9 {d:Drawn}{os:OsState}(w:World) (b1 b2:Bool) (j tk:Nat) (a b da db ep fp:Nat) (es fs:Array DictEntry) (L F:KV) (f1 f2:FL) (f3:FN) (p1 p2 p3 p4:Pos) (hL:Z es L) (hF:Z fs F) (aG:L.length<=sizeLine):
  Qb b1 b2 d os fun b1 b2=>⟨Ae w b1 b2,4,⟨(.call (.ref 1043) ⟨[.ref (a+1109),.ref (b+1109)],[]⟩),none,none,[(fl f1,p1),(fl f2,p2),(fn f3,p3),(CC,p4)],none⟩,den (.call (.ref 1043) ⟨[.ref (a+1109),.ref (b+1109)],[]⟩),[Aj da,Ac a da es ep,Aj db,Ac b db fs fp],j+1109,tk,.c (JG w b1 b2 j (j+12) a b (j+2) (da+1109) (db+1109) (j+1110) ep fp tk (tk+1) (tk+12) 3 es fs L F hL hF aG [1,3,4,6,16] (by decide) rfl) fun x1=>.e (.e (.done (.ret (.ref (j+1111)))) [Aj da,Ac a da es ep,Aj db,Ac b db fs fp,(j+1110,av),(j+1111,ah (j+1110) (tG.rs x1) (x1.rp))] ((x1.j)+1109) ((x1.2)))⟩:=bU 316 (Hx 0x1111f2210f010f010f10f022002012000200020002555e0e0e0ee0ff0ff200ff0ff0ff0ff0ff0ff0000c00cd888d8899000607700000070070000000790770b0b070000aaa0a0aaaaaaaa07700a0aa000000900000209999990000000070700000000000000000000000004000050000555500) [[5]] [5,6] (by kernel_rfl)
theorem zI {d:Drawn}{os:OsState}(w:World) (b1 b2:Bool) (j tk:Nat) (a da ep:Nat) (es:Array DictEntry) (L:KV) (f1 f2:FL) (f3:FN) (p1 p2 p3 p4:Pos) (hL:Z es L) (aG:L.length<=sizeLine):
  Qb b1 b2 d os fun b1 b2=>⟨Ae w b1 b2,2,⟨(.call (.ref 1043) ⟨[.ref (a+1109),.ref (a+1109)],[]⟩),none,none,[(fl f1,p1),(fl f2,p2),(fn f3,p3),(CC,p4)],none⟩,den (.call (.ref 1043) ⟨[.ref (a+1109),.ref (a+1109)],[]⟩),[Aj da,Ac a da es ep],j+1109,tk,.c (Ho w b1 b2 j (j+12) a (j+2) (da+1109) (j+1110) ep tk (tk+1) (tk+12) 3 es L hL aG [1,2,4,14] (by decide) rfl) fun x1=>.e (.e (.done (.ret (.ref (j+1111)))) [Aj da,Ac a da es ep,(j+1110,av),(j+1111,ah (j+1110) (tG.rs x1) (x1.rp))] ((x1.j)+1109) ((x1.2)))⟩:=bU 316 (Hx 0x110ff22e0e0ee022002012000200020002333c0c0c0ccdd20dddddd0000a00ab666b667700040550000005005000000057055090905000088808088888888055008088000000700000207777770000000050500000000000000000000000002000030000333300) [[3]] [3,4] (by kernel_rfl)
section
variable {a b da db e0 fp it j k0 k1 l m0 m1 m2 rp t t1 tk:Nat}{b1 b2:Bool}{d:Drawn}{f0 f3:FN}{f1 f2:FL}{fs rs:Array DictEntry}{kv ov vv:Int}{ns:Obj}{p0 p1 p2 p3 p4 aI:Pos}{r:KV}{w:World}
noncomputable abbrev An:=fun a b c d e f g h i j k l=>(⟨(ax (ai a 1083 0) (b+1109) (b6 a 1083 (c+1109))),none,none,[(fn d,e),(fl f,g),(fl h,i),(fn j,k),(CC,l)],none⟩:Ctx)
noncomputable abbrev Au:=fun a b c=>ic (cn (ai a 1083 0)) (Aa b) (bj (ai a 1083 0)) (b6 a 1083 (c+1109))
noncomputable abbrev A5:=fun a b c=>ak a bG b (Aa c)
theorem zJ {os:OsState}{t2 t3:Nat}(bL:IntKeys rs) (aG:rs.size<=sizeLine) (bZ:findBy Value.isInt rs kv=some (.int ov t3)) (dC:decide (vv>ov)=true):
  Qw w b1 b2 d os fun W=>⟨E2 W,3,(An W it l f0 p0 f1 p1 f2 p2 f3 p3 p4),Au W t l,[Ak a da rs rp,(l+1109,aN [A5 W k0 a,AT W k1 b] e0),AM t kv t1 vv t2],j+1109,tk,.u (bK 0 (a+1109) (ah da rs rp) rs rp rfl bL kv (.int ov t3) bZ)<| .u (jz vv ov true dC)<| .u (d8 0 (a+1109) (ah da rs rp) rs rp rfl bL aG (bO _ _ _ _) kv (.int vv 0))<| .e (.e (.done .next) [Bs a da rs kv t1 vv t2 rp,(l+1109,aN [A5 W k0 a,AT W k1 b,Az W tk kv t1,BO W (tk+1) vv t2,AC W (tk+3) ov t3] (e0+3)),AZ t kv t1 vv t2] (j+1112) (tk+5))⟩:=bU 123 (Hx 0x11010000101000122222264434404044434404044434404044030333) [[2,2,2,2,0,1],(Hx 0x11010000101222),[]] [] (by kernel_rfl)
theorem zK {os:OsState}{t2 t3:Nat}(bL:IntKeys rs) (aG:rs.size<=sizeLine) (bZ:findBy Value.isInt rs kv=some (.int ov t3)) (dC:decide (vv>ov)=false):
  Qw w b1 b2 d os fun W=>⟨E2 W,3,(An W it l f0 p0 f1 p1 f2 p2 f3 p3 p4),Au W t l,[Ak a da rs rp,(l+1109,aN [A5 W k0 a,AT W k1 b] e0),AM t kv t1 vv t2],j+1109,tk,.u (bK 0 (a+1109) (ah da rs rp) rs rp rfl bL kv (.int ov t3) bZ)<| .u (jz vv ov false dC)<| .e (.e (.done .next) [A9 a da rs rp,(l+1109,aN [A5 W k0 a,AT W k1 b,Az W tk kv t1,BO W (tk+1) vv t2,AC W (tk+3) ov t3] (e0+3)),AZ t kv t1 vv t2] (j+1112) (tk+4))⟩:=bU 104 (Hx 0x11010000101000122222264434404044434404044434404044030333) [[2,2,2,2,0,1],[]] [] (by kernel_rfl)
theorem zL {os:OsState}{t2:Nat}(bL:IntKeys rs) (aG:rs.size<=sizeLine) (bZ:findBy Value.isInt rs kv=none) (dC:decide (vv>0)=true):
  Qw w b1 b2 d os fun W=>⟨E2 W,3,(An W it l f0 p0 f1 p1 f2 p2 f3 p3 p4),Au W t l,[Ak a da rs rp,(l+1109,aN [A5 W k0 a,AT W k1 b] e0),AM t kv t1 vv t2],j+1109,tk,.u (cD 0 (a+1109) (ah da rs rp) rs rp 1093 rfl rfl bL kv bZ)<| .u (jz vv 0 true dC)<| .u (d8 0 (a+1109) (ah da rs rp) rs rp rfl bL aG (bO _ _ _ _) kv (.int vv 0))<| .e (.e (.done .next) [Bs a da rs kv t1 vv t2 rp,(l+1109,aN [A5 W k0 a,AT W k1 b,Az W tk kv t1,BO W (tk+1) vv t2,BB W (tk+6) (.int 0 (tk+5))] (e0+3)),AZ t kv t1 vv t2] (j+1113) (tk+8))⟩:=bU 148 (Hx 0x11010000101000122222264434404044434404044434404044030333) [(Hx 0x110222200777700000001),(Hx 0x11010000101222),[]] [] (by kernel_rfl)
theorem zM {os:OsState}{t2:Nat}(bL:IntKeys rs) (aG:rs.size<=sizeLine) (bZ:findBy Value.isInt rs kv=none) (dC:decide (vv>0)=false):
  Qw w b1 b2 d os fun W=>⟨E2 W,3,(An W it l f0 p0 f1 p1 f2 p2 f3 p3 p4),Au W t l,[Ak a da rs rp,(l+1109,aN [A5 W k0 a,AT W k1 b] e0),AM t kv t1 vv t2],j+1109,tk,.u (cD 0 (a+1109) (ah da rs rp) rs rp 1093 rfl rfl bL kv bZ)<| .u (jz vv 0 false dC)<| .e (.e (.done .next) [A9 a da rs rp,(l+1109,aN [A5 W k0 a,AT W k1 b,Az W tk kv t1,BO W (tk+1) vv t2,BB W (tk+6) (.int 0 (tk+5))] (e0+3)),AZ t kv t1 vv t2] (j+1113) (tk+7))⟩:=bU 129 (Hx 0x11010000101000122222264434404044434404044434404044030333) [(Hx 0x110222200777700000001),[]] [] (by kernel_rfl)
theorem zN {os:OsState}{t2 t3:Nat}{q0 q1 q2:Value}(bL:IntKeys rs) (aG:rs.size<=sizeLine) (bZ:findBy Value.isInt rs kv=some (.int ov t3)) (dC:decide (vv>ov)=true):
  Qw w b1 b2 d os fun W=>⟨E2 W,3,(An W it l f0 p0 f1 p1 f2 p2 f3 p3 p4),Au W t l,[Ak a da rs rp,(l+1109,aN [A5 W k0 a,AT W k1 b,ak W bY m0 q0,AK W m1 q1,BB W m2 q2] e0),AM t kv t1 vv t2],j+1109,tk,.u (bK 0 (a+1109) (ah da rs rp) rs rp rfl bL kv (.int ov t3) bZ)<| .u (jz vv ov true dC)<| .u (d8 0 (a+1109) (ah da rs rp) rs rp rfl bL aG (bO _ _ _ _) kv (.int vv 0))<| .e (.e (.done .next) [Bs a da rs kv t1 vv t2 rp,(l+1109,aN [A5 W k0 a,AT W k1 b,Az W m0 kv t1,BO W m1 vv t2,AC W m2 ov t3] e0),AZ t kv t1 vv t2] (j+1112) (tk+5))⟩:=bU 123 (Hx 0x11010000101000122222264434404044434404044434404044030333) [[2,2,2,2,0,1],(Hx 0x11010000101222),[]] [] (by kernel_rfl)
theorem zO {os:OsState}{t2 t3:Nat}{q0 q1 q2:Value}(bL:IntKeys rs) (aG:rs.size<=sizeLine) (bZ:findBy Value.isInt rs kv=some (.int ov t3)) (dC:decide (vv>ov)=false):
  Qw w b1 b2 d os fun W=>⟨E2 W,3,(An W it l f0 p0 f1 p1 f2 p2 f3 p3 p4),Au W t l,[Ak a da rs rp,(l+1109,aN [A5 W k0 a,AT W k1 b,ak W bY m0 q0,AK W m1 q1,BB W m2 q2] e0),AM t kv t1 vv t2],j+1109,tk,.u (bK 0 (a+1109) (ah da rs rp) rs rp rfl bL kv (.int ov t3) bZ)<| .u (jz vv ov false dC)<| .e (.e (.done .next) [A9 a da rs rp,(l+1109,aN [A5 W k0 a,AT W k1 b,Az W m0 kv t1,BO W m1 vv t2,AC W m2 ov t3] e0),AZ t kv t1 vv t2] (j+1112) (tk+4))⟩:=bU 104 (Hx 0x11010000101000122222264434404044434404044434404044030333) [[2,2,2,2,0,1],[]] [] (by kernel_rfl)
theorem zP {os:OsState}{t2:Nat}{q0 q1 q2:Value}(bL:IntKeys rs) (aG:rs.size<=sizeLine) (bZ:findBy Value.isInt rs kv=none) (dC:decide (vv>0)=true):
  Qw w b1 b2 d os fun W=>⟨E2 W,3,(An W it l f0 p0 f1 p1 f2 p2 f3 p3 p4),Au W t l,[Ak a da rs rp,(l+1109,aN [A5 W k0 a,AT W k1 b,ak W bY m0 q0,AK W m1 q1,BB W m2 q2] e0),AM t kv t1 vv t2],j+1109,tk,.u (cD 0 (a+1109) (ah da rs rp) rs rp 1093 rfl rfl bL kv bZ)<| .u (jz vv 0 true dC)<| .u (d8 0 (a+1109) (ah da rs rp) rs rp rfl bL aG (bO _ _ _ _) kv (.int vv 0))<| .e (.e (.done .next) [Bs a da rs kv t1 vv t2 rp,(l+1109,aN [A5 W k0 a,AT W k1 b,Az W m0 kv t1,BO W m1 vv t2,BB W m2 (.int 0 (tk+5))] e0),AZ t kv t1 vv t2] (j+1113) (tk+8))⟩:=bU 148 (Hx 0x11010000101000122222264434404044434404044434404044030333) [(Hx 0x110222200777700000001),(Hx 0x11010000101222),[]] [] (by kernel_rfl)
theorem zQ {os:OsState}{t2:Nat}{q0 q1 q2:Value}(bL:IntKeys rs) (aG:rs.size<=sizeLine) (bZ:findBy Value.isInt rs kv=none) (dC:decide (vv>0)=false):
  Qw w b1 b2 d os fun W=>⟨E2 W,3,(An W it l f0 p0 f1 p1 f2 p2 f3 p3 p4),Au W t l,[Ak a da rs rp,(l+1109,aN [A5 W k0 a,AT W k1 b,ak W bY m0 q0,AK W m1 q1,BB W m2 q2] e0),AM t kv t1 vv t2],j+1109,tk,.u (cD 0 (a+1109) (ah da rs rp) rs rp 1093 rfl rfl bL kv bZ)<| .u (jz vv 0 false dC)<| .e (.e (.done .next) [A9 a da rs rp,(l+1109,aN [A5 W k0 a,AT W k1 b,Az W m0 kv t1,BO W m1 vv t2,BB W m2 (.int 0 (tk+5))] e0),AZ t kv t1 vv t2] (j+1113) (tk+7))⟩:=bU 129 (Hx 0x11010000101000122222264434404044434404044434404044030333) [(Hx 0x110222200777700000001),[]] [] (by kernel_rfl)
noncomputable def bS (r:KV) (x:Int×Int):KV:=if x.2>ct r x.1 then bw r x.1 x.2 else r
theorem vh (r:KV) (x:Int×Int):(bS r x).length<=r.length+1:=by
 unfold bS
 split
 ·exact dP _ _ _
 ·lia
section
variable {d:Drawn}{os:OsState}{h₀:Heap}{Y:Nat}
inductive j5 (W:World) (a b:Nat):Obj->Prop
 | f {k0 k1 e0:Nat}:j5 W a b (aN [ak W bG k0 (.ref (a+1109)),ak W br k1 (.ref (b+1109))] e0)
 | l {k0 k1 m0 m1 m2:Nat}{q0 q1 q2:Value}{e0:Nat}:j5 W a b (aN [ak W bG k0 (.ref (a+1109)),ak W br k1 (.ref (b+1109)),ak W bY m0 q0,ak W cz m1 q1,ak W c5 m2 q2] e0)
noncomputable abbrev Bn:=fun a b c d e f g h i j k l m n=>(⟨(ax (ai (W2 a b c) 1083 0) (d+1109) (b6 (W2 a b c) 1083 (e+1109))),none,none,[(fn f,g),(fl h,i),(fl j,k),(fn l,m),(CC,n)],none⟩:Ctx)
theorem vj (w:World) (b1 b2:Bool) {R:Result->Shared->Prop}{t1 t2:Tok}
  (hr:Z rs r) (hz:r.length<=sizeLine) (aq:j5 (W2 w b1 b2) a b ns) (hk:Y<=3)
  (fin:∀ j' aF cf cS aQ p h g,Z cf (bS r (kv,vv))->j5 (W2 w b1 b2) a b aQ->AllBare g->ag (Ae w b1 b2) h₀ Y [Ak a da cf cS,A6 l aQ,AM t kv t1 vv t2] (j'+1109) h->dx (Ae w b1 b2) R (Bn w b1 b2 it l f0 p0 f1 p1 f2 p2 f3 p3 p4) (.done .next) p ⟨h,g,d,aF,os⟩):
  am (Ae w b1 b2) h₀ Y R d os ⟨(Bn w b1 b2 it l f0 p0 f1 p1 f2 p2 f3 p3 p4),aI,[],(ic (cn (ai (W2 w b1 b2) 1083 0)) (Aa t) (bj (ai (W2 w b1 b2) 1083 0)) (b6 (W2 w b1 b2) 1083 (l+1109))),[Ak a da rs rp,A6 l ns,AM t kv t1 vv t2],j+1109,tk⟩:=by
 have bL:=hr.keys
 have aG:rs.size<=sizeLine:=hr.size▸hz
 rcases hr.get kv with ⟨ov,t3,e1,e2⟩ | ⟨e1,e2⟩
 ·have ec:ct r kv=ov:=by unfold ct;rw [e1];rfl
  by_cases dC:vv>ov
  ·have es:bS r (kv,vv)=bw r kv vv:=by unfold bS;dsimp only;rw [ec,if_pos dC]
   rw [es] at fin
   induction aq with | @f k0 k1 e0=>?_ | @l k0 k1 m0 m1 m2 q0 q1 q2 e0=>?_
   ·exact zJ bL aG e2 (decide_eq_true dC) aI hk fun p h g hg aJ=>fin _ _ _ _ _ p h g (hr.put _ _ _ _) .l hg aJ
   ·exact zN bL aG e2 (decide_eq_true dC) aI hk fun p h g hg aJ=>fin _ _ _ _ _ p h g (hr.put _ _ _ _) .l hg aJ
  ·have es:bS r (kv,vv)=r:=by unfold bS;dsimp only;rw [ec,if_neg dC]
   rw [es] at fin
   induction aq with | @f k0 k1 e0=>?_ | @l k0 k1 m0 m1 m2 q0 q1 q2 e0=>?_
   ·exact zK bL aG e2 (decide_eq_false dC) aI hk fun p h g hg aJ=>fin _ _ _ _ _ p h g hr .l hg aJ
   ·exact zO bL aG e2 (decide_eq_false dC) aI hk fun p h g hg aJ=>fin _ _ _ _ _ p h g hr .l hg aJ
 ·have ec:ct r kv=0:=by unfold ct;rw [e1];rfl
  by_cases dC:vv>0
  ·have es:bS r (kv,vv)=bw r kv vv:=by unfold bS;dsimp only;rw [ec,if_pos dC]
   rw [es] at fin
   induction aq with | @f k0 k1 e0=>?_ | @l k0 k1 m0 m1 m2 q0 q1 q2 e0=>?_
   ·exact zL bL aG e2 (decide_eq_true dC) aI hk fun p h g hg aJ=>fin _ _ _ _ _ p h g (hr.put _ _ _ _) .l hg aJ
   ·exact zP bL aG e2 (decide_eq_true dC) aI hk fun p h g hg aJ=>fin _ _ _ _ _ p h g (hr.put _ _ _ _) .l hg aJ
  ·have es:bS r (kv,vv)=r:=by unfold bS;dsimp only;rw [ec,if_neg dC]
   rw [es] at fin
   induction aq with | @f k0 k1 e0=>?_ | @l k0 k1 m0 m1 m2 q0 q1 q2 e0=>?_
   ·exact zM bL aG e2 (decide_eq_false dC) aI hk fun p h g hg aJ=>fin _ _ _ _ _ p h g hr .l hg aJ
   ·exact zQ bL aG e2 (decide_eq_false dC) aI hk fun p h g hg aJ=>fin _ _ _ _ _ p h g hr .l hg aJ
theorem vk (w:World):bj (ai w 1083 0)=bj (ai w 1083 0)++[]:=(List.append_nil _).symm
theorem vl (w:World):iw (ai w 1083 0)=[]:=by kernel_rfl
theorem zR (w:World):i6 (cn (ai w 1083 0)):=fun _ _=>by kernel_rfl
theorem vm (w:World) (b1 b2:Bool) {R:Result->Shared->Prop}{F:KV}(hk:Y<=4) (hF:Z fs F) (hS:∀ r x,(bS r x).length<=r.length+1):
  ∀ (ay:KV) (i:Nat),F.drop i=ay->∀ (r:KV) (rs:Array DictEntry) (rp:Nat) (ns:Obj) (ok ov:Value) (j tk:Nat) (h:Heap) (g:Array GenState) (p:Pos),Z rs r->r.length+ay.length<=sizeLine->j5 (W2 w b1 b2) a b ns->AllBare g->
   ag (Ae w b1 b2) h₀ Y [Ak a da rs rp,Ak b db fs fp,A6 l ns,B7 it b i fs.size fp ok ov] (j+1109) h->
   (∀ j' aF cf cS aQ dF h' g',Z cf (ay.foldl bS r)->j5 (W2 w b1 b2) a b aQ->AllBare g'->ag (Ae w b1 b2) h₀ Y [Ak a da cf cS,Ak b db fs fp,A6 l aQ,A6 it dF] (j'+1109) h'->R (.ok .next) ⟨h',g',d,aF,os⟩)->
   wpCode (Bf w b1 b2) (Bn w b1 b2 it l f0 p0 f1 p1 f2 p2 f3 p3 p4) R p ⟨h,g,d,tk,os⟩:=by
 intro ay
 induction ay with
 | nil=>
  intro i hi r rs rp ns ok ov j tk h g p hr aG aq hg al fin
  have hN:fs.size<=i:=by
   rw [hF.size]
   have:=congrArg List.length hi
   simp at this;lia
  refine fS (ii:=3) (di:=1) (by show Code.forLoop _ _ _ (iw _) _=_;rw [vl]) rfl hg al rfl rfl rfl rfl hN (fun h' n' o' hn bk=>?_) p
  have:n'=(n' - 1109)+1109:=by lia
  rw [this] at bk
  exact fin (n' - 1109) tk rs rp ns o' h' g hr aq hg bk
 | cons x ay ih=>
  intro i hi r rs rp ns ok ov j tk h g p hr aG aq hg al fin
  obtain ⟨kv,vv⟩:=x
  have hx:F[i]?=some (kv,vv):=by
   have:=congrArg (fun l=>l[0]?) hi
   simpa using this
  obtain ⟨t,u,he⟩:=hF.at hx
  refine ew (ii:=3) (di:=1) (zR _) rfl hg al rfl rfl rfl rfl he (fun zF=>d9 (vk _) ?_) p
  refine am.sub [0,2,4] rfl (by decide) rfl fun h1 aj=>?_
  refine vj w b1 b2 (j:=j+1) (t:=j) (b:=b) hr (by simp at aG;lia) aq (Nat.le_refl _) fun j2 tk2 zS zT qu qw h2 g2 cA fv ao aa=>?_
  have aS:=aj.join' [0,2,4] (by decide) rfl aa rfl
  intro mO
  show wpCode _ _ R mO _
  have bc:=aS.pick [0,1,2,3] 4 (by decide) (by decide) hk rfl
  have bv:F.drop (i+1)=ay:=by
   have:=congrArg List.tail hi
   simpa using this
  refine ih (i+1) bv _ zS zT qu _ _ j2 tk2 h2 g2 mO cA ?_ fv ao bc fin
  have:=hS r (kv,vv)
  simp only [List.length_cons] at aG
  show (bS r (kv,vv)).length+ay.length<=sizeLine
  lia
structure FZ (T:KV) where
 j:Nat
 tk:Nat
 rp:Nat
 rs:Array DictEntry
 k0:Nat
 k1:Nat
 e0:Nat
 ex:List DictEntry
 it:Obj
 hT:Z rs T
noncomputable def Hp (w:World) (b1 b2:Bool) (l it a b da db rp fp k0 k1 e0:Nat) (rs fs:Array DictEntry) (r F:KV) (hr:Z rs r) (hF:Z fs F) (hz:r.length+F.length<=sizeLine) (is:List Nat) (nd:is.Nodup) (hl:4=is.length):aL (E2 (W2 w b1 b2)) d os:=
 aL.sub (FZ (F.foldl bS r)) ⟨0,0,0,lT _,0,0,0,[],av,bX _⟩ (ax (ai (W2 w b1 b2) 1083 0) (it+1109) (b6 (W2 w b1 b2) 1083 (l+1109))) [1,2,2,1] is
  [(a+1109,ah da rs rp),(b+1109,ah db fs fp),(l+1109,aN [ak (W2 w b1 b2) bG k0 (.ref (a+1109)),ak (W2 w b1 b2) br k1 (.ref (b+1109))] e0),(it+1109,cy (b+1109) 0 fs.size fp .none .none .none)]
  nd hl (fun _=>.next) (fun x=>[(a+1109,ah da x.rs x.rp),(b+1109,ah db fs fp),(l+1109,aN (ak (W2 w b1 b2) bG x.k0 (.ref (a+1109))::ak (W2 w b1 b2) br x.k1 (.ref (b+1109))::x.ex) x.e0),(it+1109,x.it)]) (fun x=>x.j+1109) (fun x=>x.tk) (fun _=>True) (fun x=>by rw [<- hl];rfl) (by
   intro Γ h g p n tk Q aV hc hg aJ k
   refine nQ aV hc fun f0 f1 f2 f3 p0 p1 p2 p3 p4=>?_
   obtain ⟨j,rfl⟩:∃ j,n=j+1109:=⟨n - 1109,(Nat.sub_add_cancel (Nat.le_of_lt (Nat.lt_of_le_of_lt (Nat.le_add_left 1109 a) (aJ.lt (i:=0) rfl)))).symm⟩
   exact vm w b1 b2 (hl▸Nat.le_refl _) hF vh F 0 rfl r rs rp _ .none .none j tk h g p hr (by simpa using hz) .f hg aJ fun j' aF cf cS aQ dF h' g' cA cq bQ bk=>by
    induction cq with | @f k0 k1 e0=>?_ | @l k0 k1 m0 m1 m2 q0 q1 q2 e0=>?_
    ·exact k ⟨j',aF,cS,cf,k0,k1,e0,[],dF,cA⟩ trivial h' g' bQ bk
    ·exact k ⟨j',aF,cS,cf,k0,k1,e0,[_,_,_],dF,cA⟩ trivial h' g' bQ bk)
end
end
section
variable {L:KV}{a aA cl da e0 ep it j l m0 m1 t t1 tk:Nat}{b1 b2:Bool}{d:Drawn}{es:Array DictEntry}{f0 f1 f4:FN}{f2 f3:FL}{kv vv:Int}{p0 p1 p2 p3 p4 p5:Pos}{w:World}
noncomputable abbrev AB:=fun a b c d e=>bq (hX (ai a 1062 0)) (b+1109) (c+1109) (bo (hX (ai a 1062 0)) (b6 a 1062 (d+1109)) (e+1109))
theorem Hq {os:OsState}{t2:Nat}(b9:decide (vv>0)=true):
  Qw w b1 b2 d os fun W=>⟨E2 W,2,⟨(AB W it aA l cl),none,none,[(fn f0,p0),(fn f1,p1),(fl f2,p2),(fl f3,p3),(fn f4,p4),(CC,p5)],none⟩,rL (hX (ai W 1062 0)) (it+1109) (aA+1109) (Aa t) (bo (hX (ai W 1062 0)) (b6 W 1062 (l+1109)) (cl+1109)),[Aj cl,AM t kv t1 vv t2],j+1109,tk,.u (jz vv 0 true b9)<| .e (.e (.again (AB W it aA l cl)) [(cl+1109,au #[Az W tk kv t1,AC W (tk+1) vv t2] 2),AZ t kv t1 vv t2] (j+1112) (tk+3))⟩:=bU 74 (Hx 0x1101111153323303033323303033323303033020222) [[]] [] (by kernel_rfl)
theorem Hr {os:OsState}{q0 q1:Value}{t2:Nat}(b9:decide (vv>0)=true):
  Qw w b1 b2 d os fun W=>⟨E2 W,2,⟨(AB W it aA l cl),none,none,[(fn f0,p0),(fn f1,p1),(fl f2,p2),(fl f3,p3),(fn f4,p4),(CC,p5)],none⟩,rL (hX (ai W 1062 0)) (it+1109) (aA+1109) (Aa t) (bo (hX (ai W 1062 0)) (b6 W 1062 (l+1109)) (cl+1109)),[(cl+1109,au #[ak W bY m0 q0,BB W m1 q1] e0),AM t kv t1 vv t2],j+1109,tk,.u (jz vv 0 true b9)<| .e (.e (.again (AB W it aA l cl)) [(cl+1109,au #[Az W m0 kv t1,AC W m1 vv t2] e0),AZ t kv t1 vv t2] (j+1112) (tk+3))⟩:=bU 74 (Hx 0x1101111153323303033323303033323303033020222) [[]] [] (by kernel_rfl)
section
variable {d:Drawn}{os:OsState}{h₀:Heap}{Y:Nat}
noncomputable def MI (W:World) (o:Obj):Prop:=∃ m0 m1 q0 q1 e0,o=au #[ak W bY m0 q0,ak W c5 m1 q1] e0
noncomputable def MJ (W:World) (o:Obj):Prop:=o=av∨∃ m0 m1 q0 q1 e0,o=au #[ak W bY m0 q0,ak W c5 m1 q1] e0
theorem zU (w:World):i6 (gU (hX (ai w 1062 0))).target:=fun _ _=>by kernel_rfl
theorem tI (w:World):((gU (hX (ai w 1062 0))).is_async != 0)=false:=by kernel_rfl
theorem vn (w:World) (b1 b2:Bool) {R:Result->Shared->Prop}(hk:Y<=3) (hL:Z es L) (b9:∀ x∈L,x.2>0):
  ∀ (ay:KV) (i:Nat),L.drop i=ay->∀ (ns:Obj) (ok ov:Value) (j tk:Nat) (h:Heap) (g:Array GenState) (p:Pos),MJ (W2 w b1 b2) ns->AllBare g->
   ag (Ae w b1 b2) h₀ Y [Ak a da es ep,A6 cl ns,B7 it a i es.size ep ok ov] (j+1109) h->
   (∀ j' aF aQ dF h' g',(MI (W2 w b1 b2) aQ∨(aQ=ns/\ay=[]))->AllBare g'->ag (Ae w b1 b2) h₀ Y [Ak a da es ep,A6 cl aQ,A6 it dF] (j'+1109) h'->R (.ok .next) ⟨h',g',d,aF,os⟩)->
   wpCode (Bf w b1 b2) ⟨(bq (hX (ai (W2 w b1 b2) 1062 0)) (it+1109) (aA+1109) (bo (hX (ai (W2 w b1 b2) 1062 0)) (b6 (W2 w b1 b2) 1062 (l+1109)) (cl+1109))),none,none,[(fn f0,p0),(fn f1,p1),(fl f2,p2),(fl f3,p3),(fn f4,p4),(CC,p5)],none⟩ R p ⟨h,g,d,tk,os⟩:=by
 intro ay
 induction ay with
 | nil=>
  intro i hi ns ok ov j tk h g p aq hg al fin
  have hN:es.size<=i:=by
   rw [hL.size]
   have:=congrArg List.length hi
   simp at this;lia
  refine ql (ii:=2) (di:=0) rfl (tI _) rfl hg al rfl rfl rfl rfl hN (fun h' n' o' hn bk=>?_) p
  have:n'=(n' - 1109)+1109:=by lia
  rw [this] at bk
  exact fin (n' - 1109) tk ns o' h' g (.inr ⟨rfl,rfl⟩) hg bk
 | cons x ay ih=>
  intro i hi ns ok ov j tk h g p aq hg al fin
  obtain ⟨kv,vv⟩:=x
  have hx:L[i]?=some (kv,vv):=by
   have:=congrArg (fun l=>l[0]?) hi
   simpa using this
  have hp:=decide_eq_true (b9 _ (List.mem_of_getElem? hx))
  obtain ⟨t,u,he⟩:=hL.at hx
  have bv:L.drop (i+1)=ay:=by
   have:=congrArg List.tail hi
   simpa using this
  refine n3 (ii:=2) (di:=0) rfl (zU _) (tI _) hg al rfl rfl rfl rfl he (fun zF=>?_) p
  refine am.sub [1,3] rfl (by decide) rfl fun h1 aj=>?_
  rcases aq with rfl | ⟨m0,m1,q0,q1,e0,rfl⟩
  ·refine Hq (j:=j+1) (t:=j) hp _ (Nat.le_refl _) fun qw h2 g2 ao aa=>?_
   have aS:=aj.join' [1,3] (by decide) rfl aa rfl
   have bc:=aS.pick [0,1,2] 3 (by decide) (by decide) hk rfl
   exact ih (i+1) bv _ _ _ _ _ h2 g2 qw (.inr ⟨_,_,_,_,_,rfl⟩) ao bc fun j' aF aQ dF h' g' q=>fin j' aF aQ dF h' g' (.inl (q.elim id fun q=>q.1▸⟨_,_,_,_,_,rfl⟩))
  ·refine Hr (j:=j+1) (t:=j) hp _ (Nat.le_refl _) fun qw h2 g2 ao aa=>?_
   have aS:=aj.join' [1,3] (by decide) rfl aa rfl
   have bc:=aS.pick [0,1,2] 3 (by decide) (by decide) hk rfl
   exact ih (i+1) bv _ _ _ _ _ h2 g2 qw (.inr ⟨_,_,_,_,_,rfl⟩) ao bc fun j' aF aQ dF h' g' q=>fin j' aF aQ dF h' g' (.inl (q.elim id fun q=>q.1▸⟨_,_,_,_,_,rfl⟩))
structure MK where
 j:Nat
 tk:Nat
 m0:Nat
 m1:Nat
 q0:Value
 q1:Value
 e0:Nat
 it:Obj
noncomputable def Hs (w:World) (b1 b2:Bool) (l it aA cl a da ep:Nat) (es:Array DictEntry) (L:KV) (hL:Z es L) (b9:∀ x∈L,x.2>0) (bD:L≠[]) (is:List Nat) (nd:is.Nodup) (hl:3=is.length):aL (E2 (W2 w b1 b2)) d os:=
 aL.sub MK ⟨0,0,0,0,.none,.none,0,av⟩ (bq (hX (ai (W2 w b1 b2) 1062 0)) (it+1109) (aA+1109) (bo (hX (ai (W2 w b1 b2) 1062 0)) (b6 (W2 w b1 b2) 1062 (l+1109)) (cl+1109))) [1,1,2,2,1] is [(a+1109,ah da es ep),(cl+1109,av),(it+1109,cy (a+1109) 0 es.size ep .none .none .none)]
  nd hl (fun _=>.next) (fun x=>[(a+1109,ah da es ep),(cl+1109,au #[ak (W2 w b1 b2) bY x.m0 x.q0,ak (W2 w b1 b2) c5 x.m1 x.q1] x.e0),(it+1109,x.it)]) (fun x=>x.j+1109) (fun x=>x.tk) (fun _=>True) (fun x=>by rw [<- hl];rfl) (by
   intro Γ h g p n tk Q aV hc hg aJ k
   refine wD aV hc fun f0 f1 f2 f3 f4 p0 p1 p2 p3 p4 p5=>?_
   obtain ⟨j,rfl⟩:∃ j,n=j+1109:=⟨n - 1109,(Nat.sub_add_cancel (Nat.le_of_lt (Nat.lt_of_le_of_lt (Nat.le_add_left 1109 a) (aJ.lt (i:=0) rfl)))).symm⟩
   exact vn w b1 b2 (hl▸Nat.le_refl _) hL b9 L 0 rfl _ .none .none j tk h g p (.inl rfl) hg aJ fun j' aF aQ dF h' g' cq bQ bk=>by
    rcases cq with ⟨m0,m1,q0,q1,e0,rfl⟩ | ⟨_,q⟩
    ·exact k ⟨j',aF,m0,m1,q0,q1,e0,dF⟩ trivial h' g' bQ bk
    ·exact absurd q bD)
end
end
noncomputable abbrev AP:=fun a b c=>ah (a+1109) b c
theorem Ea {d:Drawn}{os:OsState}{w:World}{b1 b2:Bool}{j tk:Nat}{a b da db rp fp:Nat}{rs fs:Array DictEntry}{r F:KV}{f1:FL}{f2:FL}{f3:FN}{p1 p2 p3 p4:Pos}(hr:Z rs r) (hF:Z fs F) (hz:r.length+F.length<=sizeLine) (b9:∀ x∈F.foldl bS r,x.2>0) (bD:F.foldl bS r≠[]):
  Qb b1 b2 d os fun b1 b2=>⟨Ae w b1 b2,4,⟨(.call (.ref 1083) ⟨[.ref (a+1109),.ref (b+1109)],[]⟩),none,none,[(fl f1,p1),(fl f2,p2),(fn f3,p3),(CC,p4)],none⟩,den (.call (.ref 1083) ⟨[.ref (a+1109),.ref (b+1109)],[]⟩),[Aj da,Ac a da rs rp,Aj db,Ac b db fs fp],j+1109,tk,.c (Hp w b1 b2 j (j+2) a b (da+1109) (db+1109) rp fp tk (tk+1) 2 rs fs r F hr hF hz [1,3,4,6] (by decide) rfl) fun x1=>.c (Hs w b1 b2 x1.j (x1.j+2) (x1.j+3) (x1.j+4) a (da+1109) x1.rp x1.rs _ x1.hT b9 bD [1,11,9] (by decide) rfl) fun x2=>.e (.e (.done (.ret (Aa a))) [Aj da,(a+1109,AP da (FZ.rs x1) (x1.rp)),Aj db,Ac b db fs fp] ((x2.j)+1112) ((x2.2)+1))⟩:=nX 270 (Hx 0x11744606066044004034000400040004500555500) [(Hx 0x11a0a0aa0a229090990220020120002000200028008800001200002000200025),(Hx 0x1800ffddbdd0d0d0d0b0bb8cccccc88)] [] 270 (Hx 0x11744606066044004034000400040004500555500) [(Hx 0x110a229090990220020120002000200028008800001200002000200025),(Hx 0x1800ffddbdd0d0d0d0b0bb8cccccc88)] [] (by kernel_rfl)
section
variable {a b da db e0 fp it j k0 k1 k2 k3 l m0 m1 rp sg t t1 tk u:Nat}{b1 b2:Bool}{d:Drawn}{f0 f2:FN}{f1:FL}{fs rs:Array DictEntry}{kv ov vv:Int}{ns:Obj}{p0 p1 p2 p3 aI:Pos}{r:KV}{w:World}
noncomputable abbrev Ad:=fun a b=>((a+1109,⟨.type "builtin_function_or_method",none,.fields #[.builtin "dict.get",.ref (b+1109)],#[]⟩):Addr×Obj)
noncomputable abbrev Ao:=fun a b=>((a+1109,⟨(.type "builtin_function_or_method"),none,.fields #[(.builtin "dict.get"),(Aa b)],#[]⟩):Addr×Obj)
noncomputable abbrev Av:=fun a=>fB (fB (fB (ai a 936 0) 0) 0) 1
noncomputable abbrev AQ:=fun a b c=>ak a cE b (Aa c)
noncomputable abbrev AU:=fun a b c=>ak a cF b (Aa c)
noncomputable abbrev AV:=fun a b c d e f g h i j=>(⟨(ax (Av a) (b+1109) (b6 a 936 (c+1109))),none,none,[(fn d,e),(fl f,g),(fn h,i),(CC,j)],none⟩:Ctx)
noncomputable abbrev Bl:=fun a b c=>ak a fJ b (Aa c)
noncomputable abbrev Bw:=fun a b c=>ic (cn (Av a)) (Aa b) (bj (Av a)) (b6 a 936 (c+1109))
theorem Eb {os:OsState}{t2 t3:Nat}(bL:IntKeys rs) (aG:rs.size<=sizeLine) (bZ:findBy Value.isInt rs kv=some (.int ov t3)):
  Qw w b1 b2 d os fun W=>⟨E2 W,4,(AV W it l f0 p0 f1 p1 f2 p2 p3),Bw W t l,[Ak a da rs rp,(l+1109,aN [A5 W k0 a,AQ W k1 b,Bl W k2 u,AU W k3 sg] e0),AM t kv t1 vv t2,Ad sg a],j+1109,tk,.u (ko 0 (a+1109) (ah da rs rp) rs rp rfl bL kv (.int 0 0) (some (.int ov t3)) bZ)<| .u (d8 0 (a+1109) (ah da rs rp) rs rp rfl bL aG (bO _ _ _ _) kv (.int (vv+ov) 0))<| .e (.e (.done .next) [(a+1109,ah da (dy rs kv (.int kv t1) (.int (vv+ov) (tk+4))) ((cC rs rp kv))),(l+1109,aN [A5 W k0 a,AQ W k1 b,Bl W k2 u,AU W k3 sg,Az W tk kv t1,AC W (tk+1) vv t2] (e0+2)),AZ t kv t1 vv t2,Ao sg a] (j+1112) (tk+6))⟩:=bU 108 (Hx 0x11001101404222222275535505055535505055535505055030333) [(Hx 0x110100001012200),[]] [] (by kernel_rfl)
theorem Ec {os:OsState}{t2:Nat}(bL:IntKeys rs) (aG:rs.size<=sizeLine) (bZ:findBy Value.isInt rs kv=none):
  Qw w b1 b2 d os fun W=>⟨E2 W,4,(AV W it l f0 p0 f1 p1 f2 p2 p3),Bw W t l,[Ak a da rs rp,(l+1109,aN [A5 W k0 a,AQ W k1 b,Bl W k2 u,AU W k3 sg] e0),AM t kv t1 vv t2,Ad sg a],j+1109,tk,.u (ko 0 (a+1109) (ah da rs rp) rs rp rfl bL kv (.int 0 0) none bZ)<| .u (d8 0 (a+1109) (ah da rs rp) rs rp rfl bL aG (bO _ _ _ _) kv (.int (vv+0) 0))<| .e (.e (.done .next) [(a+1109,ah da (dy rs kv (.int kv t1) (.int (vv+0) (tk+4))) ((cC rs rp kv))),(l+1109,aN [A5 W k0 a,AQ W k1 b,Bl W k2 u,AU W k3 sg,Az W tk kv t1,AC W (tk+1) vv t2] (e0+2)),AZ t kv t1 vv t2,Ao sg a] (j+1112) (tk+6))⟩:=bU 108 (Hx 0x11001101404222222275535505055535505055535505055030333) [(Hx 0x110100001012200),[]] [] (by kernel_rfl)
theorem Ed {os:OsState}{t2 t3:Nat}{q0 q1:Value}(bL:IntKeys rs) (aG:rs.size<=sizeLine) (bZ:findBy Value.isInt rs kv=some (.int ov t3)):
  Qw w b1 b2 d os fun W=>⟨E2 W,4,(AV W it l f0 p0 f1 p1 f2 p2 p3),Bw W t l,[Ak a da rs rp,(l+1109,aN [A5 W k0 a,AQ W k1 b,Bl W k2 u,AU W k3 sg,ak W bY m0 q0,BB W m1 q1] e0),AM t kv t1 vv t2,Ad sg a],j+1109,tk,.u (ko 0 (a+1109) (ah da rs rp) rs rp rfl bL kv (.int 0 0) (some (.int ov t3)) bZ)<| .u (d8 0 (a+1109) (ah da rs rp) rs rp rfl bL aG (bO _ _ _ _) kv (.int (vv+ov) 0))<| .e (.e (.done .next) [(a+1109,ah da (dy rs kv (.int kv t1) (.int (vv+ov) (tk+4))) ((cC rs rp kv))),(l+1109,aN [A5 W k0 a,AQ W k1 b,Bl W k2 u,AU W k3 sg,Az W m0 kv t1,AC W m1 vv t2] e0),AZ t kv t1 vv t2,Ao sg a] (j+1112) (tk+6))⟩:=bU 108 (Hx 0x11001101404222222275535505055535505055535505055030333) [(Hx 0x110100001012200),[]] [] (by kernel_rfl)
theorem Ee {os:OsState}{t2:Nat}{q0 q1:Value}(bL:IntKeys rs) (aG:rs.size<=sizeLine) (bZ:findBy Value.isInt rs kv=none):
  Qw w b1 b2 d os fun W=>⟨E2 W,4,(AV W it l f0 p0 f1 p1 f2 p2 p3),Bw W t l,[Ak a da rs rp,(l+1109,aN [A5 W k0 a,AQ W k1 b,Bl W k2 u,AU W k3 sg,ak W bY m0 q0,BB W m1 q1] e0),AM t kv t1 vv t2,Ad sg a],j+1109,tk,.u (ko 0 (a+1109) (ah da rs rp) rs rp rfl bL kv (.int 0 0) none bZ)<| .u (d8 0 (a+1109) (ah da rs rp) rs rp rfl bL aG (bO _ _ _ _) kv (.int (vv+0) 0))<| .e (.e (.done .next) [(a+1109,ah da (dy rs kv (.int kv t1) (.int (vv+0) (tk+4))) ((cC rs rp kv))),(l+1109,aN [A5 W k0 a,AQ W k1 b,Bl W k2 u,AU W k3 sg,Az W m0 kv t1,AC W m1 vv t2] e0),AZ t kv t1 vv t2,Ao sg a] (j+1112) (tk+6))⟩:=bU 108 (Hx 0x11001101404222222275535505055535505055535505055030333) [(Hx 0x110100001012200),[]] [] (by kernel_rfl)
noncomputable abbrev A7:=fun a=>fB (fB (ai a 944 0) 1) 0
noncomputable abbrev AW:=fun a b c d e f g h i j=>(⟨(ax (A7 a) (b+1109) (b6 a 944 (c+1109))),none,none,[(fn d,e),(fl f,g),(fn h,i),(CC,j)],none⟩:Ctx)
noncomputable abbrev Bx:=fun a b c=>ic (cn (A7 a)) (Aa b) (bj (A7 a)) (b6 a 944 (c+1109))
theorem Ef {os:OsState}{t2 t3:Nat}(bL:IntKeys rs) (aG:rs.size<=sizeLine) (bZ:findBy Value.isInt rs kv=some (.int ov t3)):
  Qw w b1 b2 d os fun W=>⟨E2 W,4,(AW W it l f0 p0 f1 p1 f2 p2 p3),Bx W t l,[Ak a da rs rp,(l+1109,aN [A5 W k0 a,AQ W k1 b,Bl W k2 u,AU W k3 sg] e0),AM t kv t1 vv t2,Ad sg a],j+1109,tk,.u (ko 0 (a+1109) (ah da rs rp) rs rp rfl bL kv (.int 0 0) (some (.int ov t3)) bZ)<| .u (d8 0 (a+1109) (ah da rs rp) rs rp rfl bL aG (bO _ _ _ _) kv (.int (ov - vv) 0))<| .e (.e (.done .next) [(a+1109,ah da (dy rs kv (.int kv t1) (.int (ov - vv) (tk+4))) ((cC rs rp kv))),(l+1109,aN [A5 W k0 a,AQ W k1 b,Bl W k2 u,AU W k3 sg,Az W tk kv t1,AC W (tk+1) vv t2] (e0+2)),AZ t kv t1 vv t2,Ao sg a] (j+1112) (tk+6))⟩:=bU 108 (Hx 0x1100110140422222275535505055535505055535505055030333) [(Hx 0x1101000010122002),[]] [] (by kernel_rfl)
theorem Eh {os:OsState}{t2:Nat}(bL:IntKeys rs) (aG:rs.size<=sizeLine) (bZ:findBy Value.isInt rs kv=none):
  Qw w b1 b2 d os fun W=>⟨E2 W,4,(AW W it l f0 p0 f1 p1 f2 p2 p3),Bx W t l,[Ak a da rs rp,(l+1109,aN [A5 W k0 a,AQ W k1 b,Bl W k2 u,AU W k3 sg] e0),AM t kv t1 vv t2,Ad sg a],j+1109,tk,.u (ko 0 (a+1109) (ah da rs rp) rs rp rfl bL kv (.int 0 0) none bZ)<| .u (d8 0 (a+1109) (ah da rs rp) rs rp rfl bL aG (bO _ _ _ _) kv (.int (0 - vv) 0))<| .e (.e (.done .next) [(a+1109,ah da (dy rs kv (.int kv t1) (.int (0 - vv) (tk+4))) ((cC rs rp kv))),(l+1109,aN [A5 W k0 a,AQ W k1 b,Bl W k2 u,AU W k3 sg,Az W tk kv t1,AC W (tk+1) vv t2] (e0+2)),AZ t kv t1 vv t2,Ao sg a] (j+1112) (tk+6))⟩:=bU 108 (Hx 0x1100110140422222275535505055535505055535505055030333) [(Hx 0x1101000010122002),[]] [] (by kernel_rfl)
theorem Ei {os:OsState}{t2 t3:Nat}{q0 q1:Value}(bL:IntKeys rs) (aG:rs.size<=sizeLine) (bZ:findBy Value.isInt rs kv=some (.int ov t3)):
  Qw w b1 b2 d os fun W=>⟨E2 W,4,(AW W it l f0 p0 f1 p1 f2 p2 p3),Bx W t l,[Ak a da rs rp,(l+1109,aN [A5 W k0 a,AQ W k1 b,Bl W k2 u,AU W k3 sg,ak W bY m0 q0,BB W m1 q1] e0),AM t kv t1 vv t2,Ad sg a],j+1109,tk,.u (ko 0 (a+1109) (ah da rs rp) rs rp rfl bL kv (.int 0 0) (some (.int ov t3)) bZ)<| .u (d8 0 (a+1109) (ah da rs rp) rs rp rfl bL aG (bO _ _ _ _) kv (.int (ov - vv) 0))<| .e (.e (.done .next) [(a+1109,ah da (dy rs kv (.int kv t1) (.int (ov - vv) (tk+4))) ((cC rs rp kv))),(l+1109,aN [A5 W k0 a,AQ W k1 b,Bl W k2 u,AU W k3 sg,Az W m0 kv t1,AC W m1 vv t2] e0),AZ t kv t1 vv t2,Ao sg a] (j+1112) (tk+6))⟩:=bU 108 (Hx 0x1100110140422222275535505055535505055535505055030333) [(Hx 0x1101000010122002),[]] [] (by kernel_rfl)
theorem Ej {os:OsState}{t2:Nat}{q0 q1:Value}(bL:IntKeys rs) (aG:rs.size<=sizeLine) (bZ:findBy Value.isInt rs kv=none):
  Qw w b1 b2 d os fun W=>⟨E2 W,4,(AW W it l f0 p0 f1 p1 f2 p2 p3),Bx W t l,[Ak a da rs rp,(l+1109,aN [A5 W k0 a,AQ W k1 b,Bl W k2 u,AU W k3 sg,ak W bY m0 q0,BB W m1 q1] e0),AM t kv t1 vv t2,Ad sg a],j+1109,tk,.u (ko 0 (a+1109) (ah da rs rp) rs rp rfl bL kv (.int 0 0) none bZ)<| .u (d8 0 (a+1109) (ah da rs rp) rs rp rfl bL aG (bO _ _ _ _) kv (.int (0 - vv) 0))<| .e (.e (.done .next) [(a+1109,ah da (dy rs kv (.int kv t1) (.int (0 - vv) (tk+4))) ((cC rs rp kv))),(l+1109,aN [A5 W k0 a,AQ W k1 b,Bl W k2 u,AU W k3 sg,Az W m0 kv t1,AC W m1 vv t2] e0),AZ t kv t1 vv t2,Ao sg a] (j+1112) (tk+6))⟩:=bU 108 (Hx 0x1100110140422222275535505055535505055535505055030333) [(Hx 0x1101000010122002),[]] [] (by kernel_rfl)
noncomputable def dS (r:KV) (x:Int×Int):KV:=bw r x.1 (x.2+ct r x.1)
theorem vo (r:KV) (x:Int×Int):(dS r x).length<=r.length+1:=dP _ _ _
noncomputable def dT (r:KV) (x:Int×Int):KV:=bw r x.1 (ct r x.1 - x.2)
theorem vp (r:KV) (x:Int×Int):(dT r x).length<=r.length+1:=dP _ _ _
section
variable {d:Drawn}{os:OsState}{h₀:Heap}{Y:Nat}
inductive j6 (W:World) (a b sg u:Nat):Obj->Prop
 | f {k0 k1 k2 k3 e0:Nat}:j6 W a b sg u (aN [ak W bG k0 (.ref (a+1109)),ak W cE k1 (.ref (b+1109)),ak W fJ k2 (.ref (u+1109)),ak W cF k3 (.ref (sg+1109))] e0)
 | l {k0 k1 k2 k3 m0 m1:Nat}{q0 q1:Value}{e0:Nat}:j6 W a b sg u (aN [ak W bG k0 (.ref (a+1109)),ak W cE k1 (.ref (b+1109)),ak W fJ k2 (.ref (u+1109)),ak W cF k3 (.ref (sg+1109)),ak W bY m0 q0,ak W c5 m1 q1] e0)
noncomputable abbrev Bb:=fun a b c d e f g h i j k l=>(⟨(ax (fB (fB (fB (ai (W2 a b c) 936 0) 0) 0) 1) (d+1109) (b6 (W2 a b c) 936 (e+1109))),none,none,[(fn f,g),(fl h,i),(fn j,k),(CC,l)],none⟩:Ctx)
theorem vq (w:World) (b1 b2:Bool) {R:Result->Shared->Prop}{t1 t2:Tok}
  (hr:Z rs r) (hz:r.length<=sizeLine) (aq:j6 (W2 w b1 b2) a b sg u ns) (hk:Y<=4)
  (fin:∀ j' aF cf cS aQ p h g,Z cf (dS r (kv,vv))->j6 (W2 w b1 b2) a b sg u aQ->AllBare g->ag (Ae w b1 b2) h₀ Y [Ak a da cf cS,A6 l aQ,AM t kv t1 vv t2,Ad sg a] (j'+1109) h->dx (Ae w b1 b2) R (Bb w b1 b2 it l f0 p0 f1 p1 f2 p2 p3) (.done .next) p ⟨h,g,d,aF,os⟩):
  am (Ae w b1 b2) h₀ Y R d os ⟨(Bb w b1 b2 it l f0 p0 f1 p1 f2 p2 p3),aI,[],(ic (cn (fB (fB (fB (ai (W2 w b1 b2) 936 0) 0) 0) 1)) (Aa t) (bj (fB (fB (fB (ai (W2 w b1 b2) 936 0) 0) 0) 1)) (b6 (W2 w b1 b2) 936 (l+1109))),[Ak a da rs rp,A6 l ns,AM t kv t1 vv t2,Ad sg a],j+1109,tk⟩:=by
 have bL:=hr.keys
 have aG:rs.size<=sizeLine:=hr.size▸hz
 rcases hr.get kv with ⟨ov,t3,e1,e2⟩ | ⟨e1,e2⟩
 ·have es:dS r (kv,vv)=bw r kv (vv+ov):=by unfold dS ct;dsimp only;rw [e1];rfl
  rw [es] at fin
  induction aq with | @f k0 k1 k2 k3 e0=>?_ | @l k0 k1 k2 k3 m0 m1 q0 q1 e0=>?_
  ·exact Eb bL aG e2 aI hk fun p h g hg aJ=>fin _ _ _ _ _ p h g (hr.put _ _ _ _) .l hg aJ
  ·exact Ed bL aG e2 aI hk fun p h g hg aJ=>fin _ _ _ _ _ p h g (hr.put _ _ _ _) .l hg aJ
 ·have es:dS r (kv,vv)=bw r kv (vv+0):=by unfold dS ct;dsimp only;rw [e1];rfl
  rw [es] at fin
  induction aq with | @f k0 k1 k2 k3 e0=>?_ | @l k0 k1 k2 k3 m0 m1 q0 q1 e0=>?_
  ·exact Ec bL aG e2 aI hk fun p h g hg aJ=>fin _ _ _ _ _ p h g (hr.put _ _ _ _) .l hg aJ
  ·exact Ee bL aG e2 aI hk fun p h g hg aJ=>fin _ _ _ _ _ p h g (hr.put _ _ _ _) .l hg aJ
theorem vr (w:World):bj (Av w)=bj (Av w)++[]:=(List.append_nil _).symm
theorem vu (w:World):iw (Av w)=[]:=by kernel_rfl
theorem zV (w:World):i6 (cn (Av w)):=fun _ _=>by kernel_rfl
theorem vw (w:World) (b1 b2:Bool) {R:Result->Shared->Prop}{F:KV}(hk:Y<=5) (hF:Z fs F) (hS:∀ r x,(dS r x).length<=r.length+1):
  ∀ (ay:KV) (i:Nat),F.drop i=ay->∀ (r:KV) (rs:Array DictEntry) (rp:Nat) (ns:Obj) (ok ov:Value) (j tk:Nat) (h:Heap) (g:Array GenState) (p:Pos),Z rs r->r.length+ay.length<=sizeLine->j6 (W2 w b1 b2) a b sg u ns->AllBare g->
   ag (Ae w b1 b2) h₀ Y [Ak a da rs rp,Ak b db fs fp,A6 l ns,B7 it b i fs.size fp ok ov,Ad sg a] (j+1109) h->
   (∀ j' aF cf cS aQ dF h' g',Z cf (ay.foldl dS r)->j6 (W2 w b1 b2) a b sg u aQ->AllBare g'->ag (Ae w b1 b2) h₀ Y [Ak a da cf cS,Ak b db fs fp,A6 l aQ,A6 it dF,Ad sg a] (j'+1109) h'->R (.ok .next) ⟨h',g',d,aF,os⟩)->
   wpCode (Bf w b1 b2) (Bb w b1 b2 it l f0 p0 f1 p1 f2 p2 p3) R p ⟨h,g,d,tk,os⟩:=by
 intro ay
 induction ay with
 | nil=>
  intro i hi r rs rp ns ok ov j tk h g p hr aG aq hg al fin
  have hN:fs.size<=i:=by
   rw [hF.size]
   have:=congrArg List.length hi
   simp at this;lia
  refine fS (ii:=3) (di:=1) (by show Code.forLoop _ _ _ (iw _) _=_;rw [vu]) rfl hg al rfl rfl rfl rfl hN (fun h' n' o' hn bk=>?_) p
  have:n'=(n' - 1109)+1109:=by lia
  rw [this] at bk
  exact fin (n' - 1109) tk rs rp ns o' h' g hr aq hg bk
 | cons x ay ih=>
  intro i hi r rs rp ns ok ov j tk h g p hr aG aq hg al fin
  obtain ⟨kv,vv⟩:=x
  have hx:F[i]?=some (kv,vv):=by
   have:=congrArg (fun l=>l[0]?) hi
   simpa using this
  obtain ⟨t,u,he⟩:=hF.at hx
  refine ew (ii:=3) (di:=1) (zV _) rfl hg al rfl rfl rfl rfl he (fun zF=>d9 (vr _) ?_) p
  refine am.sub [0,2,5,4] rfl (by decide) rfl fun h1 aj=>?_
  refine vq w b1 b2 (j:=j+1) (t:=j) (b:=b) hr (by simp at aG;lia) aq (Nat.le_refl _) fun j2 tk2 zS zT qu qw h2 g2 cA fv ao aa=>?_
  have aS:=aj.join' [0,2,5,4] (by decide) rfl aa rfl
  intro mO
  show wpCode _ _ R mO _
  have bc:=aS.pick [0,1,2,3,4] 5 (by decide) (by decide) hk rfl
  have bv:F.drop (i+1)=ay:=by
   have:=congrArg List.tail hi
   simpa using this
  refine ih (i+1) bv _ zS zT qu _ _ j2 tk2 h2 g2 mO cA ?_ fv ao bc fin
  have:=hS r (kv,vv)
  simp only [List.length_cons] at aG
  show (dS r (kv,vv)).length+ay.length<=sizeLine
  lia
structure F4 (T:KV) where
 j:Nat
 tk:Nat
 rp:Nat
 rs:Array DictEntry
 k0:Nat
 k1:Nat
 k2:Nat
 k3:Nat
 e0:Nat
 ex:List DictEntry
 it:Obj
 hT:Z rs T
noncomputable def Ht (w:World) (b1 b2:Bool) (l it a b da db rp fp sg u k0 k1 k2 k3 e0:Nat) (rs fs:Array DictEntry) (r F:KV) (hr:Z rs r) (hF:Z fs F) (hz:r.length+F.length<=sizeLine) (is:List Nat) (nd:is.Nodup) (hl:5=is.length):aL (E2 (W2 w b1 b2)) d os:=
 aL.sub (F4 (F.foldl dS r)) ⟨0,0,0,lT _,0,0,0,0,0,[],av,bX _⟩ (ax (fB (fB (fB (ai (W2 w b1 b2) 936 0) 0) 0) 1) (it+1109) (b6 (W2 w b1 b2) 936 (l+1109))) [1,2,1] is
  [(a+1109,ah da rs rp),(b+1109,ah db fs fp),(l+1109,aN [ak (W2 w b1 b2) bG k0 (.ref (a+1109)),ak (W2 w b1 b2) cE k1 (.ref (b+1109)),ak (W2 w b1 b2) fJ k2 (.ref (u+1109)),ak (W2 w b1 b2) cF k3 (.ref (sg+1109))] e0),(it+1109,cy (b+1109) 0 fs.size fp .none .none .none),(sg+1109,⟨.type "builtin_function_or_method",none,.fields #[.builtin "dict.get",.ref (a+1109)],#[]⟩)]
  nd hl (fun _=>.next) (fun x=>[(a+1109,ah da x.rs x.rp),(b+1109,ah db fs fp),(l+1109,aN (ak (W2 w b1 b2) bG x.k0 (.ref (a+1109))::ak (W2 w b1 b2) cE x.k1 (.ref (b+1109))::ak (W2 w b1 b2) fJ x.k2 (.ref (u+1109))::ak (W2 w b1 b2) cF x.k3 (.ref (sg+1109))::x.ex) x.e0),(it+1109,x.it),(sg+1109,⟨.type "builtin_function_or_method",none,.fields #[.builtin "dict.get",.ref (a+1109)],#[]⟩)]) (fun x=>x.j+1109) (fun x=>x.tk) (fun _=>True) (fun x=>by rw [<- hl];rfl) (by
   intro Γ h g p n tk Q aV hc hg aJ k
   refine ro aV hc fun f0 f1 f2 p0 p1 p2 p3=>?_
   obtain ⟨j,rfl⟩:∃ j,n=j+1109:=⟨n - 1109,(Nat.sub_add_cancel (Nat.le_of_lt (Nat.lt_of_le_of_lt (Nat.le_add_left 1109 a) (aJ.lt (i:=0) rfl)))).symm⟩
   exact vw w b1 b2 (hl▸Nat.le_refl _) hF vo F 0 rfl r rs rp _ .none .none j tk h g p hr (by simpa using hz) .f hg aJ fun j' aF cf cS aQ dF h' g' cA cq bQ bk=>by
    induction cq with | @f k0 k1 k2 k3 e0=>?_ | @l k0 k1 k2 k3 m0 m1 q0 q1 e0=>?_
    ·exact k ⟨j',aF,cS,cf,k0,k1,k2,k3,e0,[],dF,cA⟩ trivial h' g' bQ bk
    ·exact k ⟨j',aF,cS,cf,k0,k1,k2,k3,e0,[_,_],dF,cA⟩ trivial h' g' bQ bk)
end
section
variable {d:Drawn}{os:OsState}{h₀:Heap}{Y:Nat}
inductive j7 (W:World) (a b sg u:Nat):Obj->Prop
 | f {k0 k1 k2 k3 e0:Nat}:j7 W a b sg u (aN [ak W bG k0 (.ref (a+1109)),ak W cE k1 (.ref (b+1109)),ak W fJ k2 (.ref (u+1109)),ak W cF k3 (.ref (sg+1109))] e0)
 | l {k0 k1 k2 k3 m0 m1:Nat}{q0 q1:Value}{e0:Nat}:j7 W a b sg u (aN [ak W bG k0 (.ref (a+1109)),ak W cE k1 (.ref (b+1109)),ak W fJ k2 (.ref (u+1109)),ak W cF k3 (.ref (sg+1109)),ak W bY m0 q0,ak W c5 m1 q1] e0)
noncomputable abbrev Bi:=fun a b c d e f g h i j k l=>(⟨(ax (fB (fB (ai (W2 a b c) 944 0) 1) 0) (d+1109) (b6 (W2 a b c) 944 (e+1109))),none,none,[(fn f,g),(fl h,i),(fn j,k),(CC,l)],none⟩:Ctx)
theorem vx (w:World) (b1 b2:Bool) {R:Result->Shared->Prop}{t1 t2:Tok}
  (hr:Z rs r) (hz:r.length<=sizeLine) (aq:j7 (W2 w b1 b2) a b sg u ns) (hk:Y<=4)
  (fin:∀ j' aF cf cS aQ p h g,Z cf (dT r (kv,vv))->j7 (W2 w b1 b2) a b sg u aQ->AllBare g->ag (Ae w b1 b2) h₀ Y [Ak a da cf cS,A6 l aQ,AM t kv t1 vv t2,Ad sg a] (j'+1109) h->dx (Ae w b1 b2) R (Bi w b1 b2 it l f0 p0 f1 p1 f2 p2 p3) (.done .next) p ⟨h,g,d,aF,os⟩):
  am (Ae w b1 b2) h₀ Y R d os ⟨(Bi w b1 b2 it l f0 p0 f1 p1 f2 p2 p3),aI,[],(ic (cn (fB (fB (ai (W2 w b1 b2) 944 0) 1) 0)) (Aa t) (bj (fB (fB (ai (W2 w b1 b2) 944 0) 1) 0)) (b6 (W2 w b1 b2) 944 (l+1109))),[Ak a da rs rp,A6 l ns,AM t kv t1 vv t2,Ad sg a],j+1109,tk⟩:=by
 have bL:=hr.keys
 have aG:rs.size<=sizeLine:=hr.size▸hz
 rcases hr.get kv with ⟨ov,t3,e1,e2⟩ | ⟨e1,e2⟩
 ·have es:dT r (kv,vv)=bw r kv (ov - vv):=by unfold dT ct;dsimp only;rw [e1];rfl
  rw [es] at fin
  induction aq with | @f k0 k1 k2 k3 e0=>?_ | @l k0 k1 k2 k3 m0 m1 q0 q1 e0=>?_
  ·exact Ef bL aG e2 aI hk fun p h g hg aJ=>fin _ _ _ _ _ p h g (hr.put _ _ _ _) .l hg aJ
  ·exact Ei bL aG e2 aI hk fun p h g hg aJ=>fin _ _ _ _ _ p h g (hr.put _ _ _ _) .l hg aJ
 ·have es:dT r (kv,vv)=bw r kv (0 - vv):=by unfold dT ct;dsimp only;rw [e1];rfl
  rw [es] at fin
  induction aq with | @f k0 k1 k2 k3 e0=>?_ | @l k0 k1 k2 k3 m0 m1 q0 q1 e0=>?_
  ·exact Eh bL aG e2 aI hk fun p h g hg aJ=>fin _ _ _ _ _ p h g (hr.put _ _ _ _) .l hg aJ
  ·exact Ej bL aG e2 aI hk fun p h g hg aJ=>fin _ _ _ _ _ p h g (hr.put _ _ _ _) .l hg aJ
theorem vy (w:World):bj (A7 w)=bj (A7 w)++[]:=(List.append_nil _).symm
theorem vz (w:World):iw (A7 w)=[]:=by kernel_rfl
theorem zX (w:World):i6 (cn (A7 w)):=fun _ _=>by kernel_rfl
theorem vA (w:World) (b1 b2:Bool) {R:Result->Shared->Prop}{F:KV}(hk:Y<=5) (hF:Z fs F) (hS:∀ r x,(dT r x).length<=r.length+1):
  ∀ (ay:KV) (i:Nat),F.drop i=ay->∀ (r:KV) (rs:Array DictEntry) (rp:Nat) (ns:Obj) (ok ov:Value) (j tk:Nat) (h:Heap) (g:Array GenState) (p:Pos),Z rs r->r.length+ay.length<=sizeLine->j7 (W2 w b1 b2) a b sg u ns->AllBare g->
   ag (Ae w b1 b2) h₀ Y [Ak a da rs rp,Ak b db fs fp,A6 l ns,B7 it b i fs.size fp ok ov,Ad sg a] (j+1109) h->
   (∀ j' aF cf cS aQ dF h' g',Z cf (ay.foldl dT r)->j7 (W2 w b1 b2) a b sg u aQ->AllBare g'->ag (Ae w b1 b2) h₀ Y [Ak a da cf cS,Ak b db fs fp,A6 l aQ,A6 it dF,Ad sg a] (j'+1109) h'->R (.ok .next) ⟨h',g',d,aF,os⟩)->
   wpCode (Bf w b1 b2) (Bi w b1 b2 it l f0 p0 f1 p1 f2 p2 p3) R p ⟨h,g,d,tk,os⟩:=by
 intro ay
 induction ay with
 | nil=>
  intro i hi r rs rp ns ok ov j tk h g p hr aG aq hg al fin
  have hN:fs.size<=i:=by
   rw [hF.size]
   have:=congrArg List.length hi
   simp at this;lia
  refine fS (ii:=3) (di:=1) (by show Code.forLoop _ _ _ (iw _) _=_;rw [vz]) rfl hg al rfl rfl rfl rfl hN (fun h' n' o' hn bk=>?_) p
  have:n'=(n' - 1109)+1109:=by lia
  rw [this] at bk
  exact fin (n' - 1109) tk rs rp ns o' h' g hr aq hg bk
 | cons x ay ih=>
  intro i hi r rs rp ns ok ov j tk h g p hr aG aq hg al fin
  obtain ⟨kv,vv⟩:=x
  have hx:F[i]?=some (kv,vv):=by
   have:=congrArg (fun l=>l[0]?) hi
   simpa using this
  obtain ⟨t,u,he⟩:=hF.at hx
  refine ew (ii:=3) (di:=1) (zX _) rfl hg al rfl rfl rfl rfl he (fun zF=>d9 (vy _) ?_) p
  refine am.sub [0,2,5,4] rfl (by decide) rfl fun h1 aj=>?_
  refine vx w b1 b2 (j:=j+1) (t:=j) (b:=b) hr (by simp at aG;lia) aq (Nat.le_refl _) fun j2 tk2 zS zT qu qw h2 g2 cA fv ao aa=>?_
  have aS:=aj.join' [0,2,5,4] (by decide) rfl aa rfl
  intro mO
  show wpCode _ _ R mO _
  have bc:=aS.pick [0,1,2,3,4] 5 (by decide) (by decide) hk rfl
  have bv:F.drop (i+1)=ay:=by
   have:=congrArg List.tail hi
   simpa using this
  refine ih (i+1) bv _ zS zT qu _ _ j2 tk2 h2 g2 mO cA ?_ fv ao bc fin
  have:=hS r (kv,vv)
  simp only [List.length_cons] at aG
  show (dT r (kv,vv)).length+ay.length<=sizeLine
  lia
structure F5 (T:KV) where
 j:Nat
 tk:Nat
 rp:Nat
 rs:Array DictEntry
 k0:Nat
 k1:Nat
 k2:Nat
 k3:Nat
 e0:Nat
 ex:List DictEntry
 it:Obj
 hT:Z rs T
noncomputable def Hu (w:World) (b1 b2:Bool) (l it a b da db rp fp sg u k0 k1 k2 k3 e0:Nat) (rs fs:Array DictEntry) (r F:KV) (hr:Z rs r) (hF:Z fs F) (hz:r.length+F.length<=sizeLine) (is:List Nat) (nd:is.Nodup) (hl:5=is.length):aL (E2 (W2 w b1 b2)) d os:=
 aL.sub (F5 (F.foldl dT r)) ⟨0,0,0,lT _,0,0,0,0,0,[],av,bX _⟩ (ax (fB (fB (ai (W2 w b1 b2) 944 0) 1) 0) (it+1109) (b6 (W2 w b1 b2) 944 (l+1109))) [1,2,1] is
  [(a+1109,ah da rs rp),(b+1109,ah db fs fp),(l+1109,aN [ak (W2 w b1 b2) bG k0 (.ref (a+1109)),ak (W2 w b1 b2) cE k1 (.ref (b+1109)),ak (W2 w b1 b2) fJ k2 (.ref (u+1109)),ak (W2 w b1 b2) cF k3 (.ref (sg+1109))] e0),(it+1109,cy (b+1109) 0 fs.size fp .none .none .none),(sg+1109,⟨.type "builtin_function_or_method",none,.fields #[.builtin "dict.get",.ref (a+1109)],#[]⟩)]
  nd hl (fun _=>.next) (fun x=>[(a+1109,ah da x.rs x.rp),(b+1109,ah db fs fp),(l+1109,aN (ak (W2 w b1 b2) bG x.k0 (.ref (a+1109))::ak (W2 w b1 b2) cE x.k1 (.ref (b+1109))::ak (W2 w b1 b2) fJ x.k2 (.ref (u+1109))::ak (W2 w b1 b2) cF x.k3 (.ref (sg+1109))::x.ex) x.e0),(it+1109,x.it),(sg+1109,⟨.type "builtin_function_or_method",none,.fields #[.builtin "dict.get",.ref (a+1109)],#[]⟩)]) (fun x=>x.j+1109) (fun x=>x.tk) (fun _=>True) (fun x=>by rw [<- hl];rfl) (by
   intro Γ h g p n tk Q aV hc hg aJ k
   refine ro aV hc fun f0 f1 f2 p0 p1 p2 p3=>?_
   obtain ⟨j,rfl⟩:∃ j,n=j+1109:=⟨n - 1109,(Nat.sub_add_cancel (Nat.le_of_lt (Nat.lt_of_le_of_lt (Nat.le_add_left 1109 a) (aJ.lt (i:=0) rfl)))).symm⟩
   exact vA w b1 b2 (hl▸Nat.le_refl _) hF vp F 0 rfl r rs rp _ .none .none j tk h g p hr (by simpa using hz) .f hg aJ fun j' aF cf cS aQ dF h' g' cA cq bQ bk=>by
    induction cq with | @f k0 k1 k2 k3 e0=>?_ | @l k0 k1 k2 k3 m0 m1 q0 q1 e0=>?_
    ·exact k ⟨j',aF,cS,cf,k0,k1,k2,k3,e0,[],dF,cA⟩ trivial h' g' bQ bk
    ·exact k ⟨j',aF,cS,cf,k0,k1,k2,k3,e0,[_,_],dF,cA⟩ trivial h' g' bQ bk)
end
end
theorem JH {d:Drawn}{os:OsState}(w:World) (b1 b2:Bool) (j tk:Nat) (Γ:Ctx) (b bd bp:Nat) (bs:Array DictEntry):
  Qw w b1 b2 d os fun W=>⟨E2 W,2,Γ,yZ (.ref (b+1109)),[(bd+1109,av),(b+1109,ah (bd+1109) bs bp)],j+1109,tk,.e (.e (.done (.ret (.bool true))) [(bd+1109,(av)),(b+1109,(ah (bd+1109) bs bp))] (j+1109) tk)⟩:=bU 12 [2,0,2,0,0,0] [] [] (by kernel_rfl)
theorem JI {d:Drawn}{os:OsState}(w:World) (b1 b2:Bool) (j tk:Nat) (Γ:Ctx) (b bp:Nat) (bs:Array DictEntry):
  Qw w b1 b2 d os fun W=>⟨E2 W,1,Γ,yZ (.ref (b+1109)),[(b+1109,au bs bp)],j+1109,tk,.e (.e (.done (.ret (.bool true))) [(b+1109,(au bs bp))] (j+1109) tk)⟩:=bU 8 [1,1] [] [] (by kernel_rfl)
theorem JJ {d:Drawn}{os:OsState}(w:World) (b1 b2:Bool) (j tk:Nat) (Γ:Ctx) (b bd bp:Nat) (bs:Array DictEntry):
  Qw w b1 b2 d os fun W=>⟨E2 W,2,Γ,D0 (.ref (b+1109)),[(bd+1109,av),(b+1109,ah (bd+1109) bs bp)],j+1109,tk,.e (.e (.done (.ret (.bool true))) [(bd+1109,(av)),(b+1109,(ah (bd+1109) bs bp))] (j+1110) (tk+1))⟩:=bU 34 (Hx 0x102001022000200200000002) [] [] (by kernel_rfl)
section
variable {E:En}{A:Around}{X:Value->Shared->Prop}{s:Shared}
theorem mf {d:Addr}{o:Obj}{es:Array DictEntry}{ep:Nat}{k:Int}{t:Tok}{v:Value}{Q:Unit->Shared->Prop}(ho:s.heap.get? d=some o) (hd:o.data=.dict es ep) (hk:IntKeys es) (aG:es.size<=sizeLine)
  (h:∀ h',h'.get? d=some (lL o es ep k (.int k t) v)->Heap.SameBut d s.heap h'->Q () {s with heap:=h'}):wpAny (Mo E) A (dictSetHashed d (.int k t) (hashInt k) v) Q X s:=by
 unfold dictSetHashed
 try with_reducible refine wpAny_holding ?_
 refine wpAny_bind (wpAny_dictFind_int ho hd hk ?_)
 cases hi:es.findIdx? fun e=>Value.isInt k e.key with
 | some i=>
  refine wpAny_bind (wpAny_rule (wpAny_bind (wpAny_updateDict ho hd ?_ (by simp))))
  refine wpAny_point (h _ ?_ (Heap.SameBut.update ..))
  obtain ⟨c,dd,dt,sl⟩:=o
  simp only at hd;subst hd
  rw [Heap.get?_update_self _ ho rfl]
  unfold lL dy cC
  rw [hi];rfl
 | none=>
  refine wpAny_bind (wpAny_rule (wpAny_updateDictKeys ho hd (h _ ?_ (Heap.SameBut.update ..)) aG (by simp)))
  obtain ⟨c,dd,dt,sl⟩:=o
  simp only at hd;subst hd
  rw [Heap.get?_update_self _ ho rfl]
  unfold lL dy cC
  rw [hi];rfl
noncomputable def cj (r l:KV):KV:=l.foldl (fun r x=>bw r x.1 x.2) r
theorem rR (l:KV):∀ r:KV,(cj r l).length<=r.length+l.length:=by
 induction l with
 | nil=>intro r;exact Nat.le_refl _
 | cons x l ih=>
  intro r
  have h1:=ih (bw r x.1 x.2)
  have h2:=dP r x.1 x.2
  have e:cj r (x::l)=cj (bw r x.1 x.2) l:=rfl
  rw [e];simp only [List.length_cons];lia
theorem mg {id:String}{d b:Addr}{od ob:Obj}{ds bs:Array DictEntry}{dp bp:Nat}{R0 L:KV}{Q:Unit->Shared->Prop}(hd:s.heap.get? d=some od) (dU:od.data=.dict ds dp) (hR:Z ds R0)
  (hb:s.heap.get? b=some ob) (lz:ob.data=.dict bs bp) (hL:Z bs L) (bD:d≠b) (rS:(b==sysModules)=false) (h8:L.length<=8) (hz:R0.length+L.length<=sizeLine)
  (h:∀ h' n9 vB,h'.get? d=some ⟨od.cls,od.dict,.dict n9 vB,od.slots⟩->Z n9 (cj R0 L)->Heap.SameBut d s.heap h'->Q () {s with heap:=h'}):
  wpAny (Mo E) A (Builtin.Dict.mergeDict id d b) Q X s:=by
 unfold Builtin.Dict.mergeDict
 rw [if_neg (by simpa using bD)]
 unfold Builtin.Dict.showsAll
 rw [rS]
 simp only [Bool.false_eq_true,if_false]
 refine wpAny_bind (wpAny_pure (wpAny_bind (wpAny_dictEntries hb lz ?_)))
 have ML:(decide (bs.size<=8)&&bs.all fun e=>(keyPart e.key).isSome)=true:=by
  rw [Bool.and_eq_true_iff]
  refine ⟨decide_eq_true (by rw [hL.size];exact h8),?_⟩
  rw [Array.all_eq_true_iff_forall_mem]
  intro e he
  obtain ⟨k,t,hk,_⟩:=hL.keys e he
  rw [hk];rfl
 rw [ML]
 simp only [Bool.not_true,Bool.false_eq_true,if_false]
 refine wpAny_bind (wpAny_dictEpoch hb lz ?_)
 refine wpAny_bind (wpAny_dictEntries hb lz ?_)
 refine wpAny_bind ?_
 rw [Std.Legacy.Range.forIn_eq_forIn_range']
 simp only [Std.Legacy.Range.size,Nat.sub_zero,Nat.add_sub_cancel,Nat.div_one]
 refine wpAny_forIn_list _
  (fun rest _ s'=>∃ i h' n9 vB,rest=List.range' i (bs.size - i)/\i<=bs.size/\s'={s with heap:=h'}/\h'.get? d=some ⟨od.cls,od.dict,.dict n9 vB,od.slots⟩/\Z n9 (cj R0 (L.take i))/\Heap.SameBut d s.heap h')
  _ ?_ ?_ _ _ ⟨0,s.heap,ds,dp,rfl,Nat.zero_le _,rfl,?_,hR,Heap.SameBut.refl _ _⟩
 ·rintro x rest u s' ⟨i,h',n9,vB,hr,hi,rfl,hd',hT,cB⟩
  have cv:i < bs.size:=by
   rcases Nat.lt_or_ge i bs.size with h | h
   ·exact h
   ·rw [Nat.sub_eq_zero_of_le h] at hr;simp at hr
  obtain ⟨rfl,Hv⟩:x=i/\rest=List.range' (i+1) (bs.size - (i+1)):=by
   have e:bs.size - i=(bs.size - (i+1))+1:=by lia
   rw [e,List.range'_succ] at hr
   injection hr with h1 h2
   exact ⟨h1,h2⟩
  have vf:h'.get? b=some ob:=(cB.2 b (Ne.symm bD)).trans hb
  obtain ⟨y,hy⟩:∃ y,L[x]?=some y:=⟨L[x]'(by rw [<- hL.size];exact cv),List.getElem?_eq_getElem _⟩
  obtain ⟨t,u',he⟩:=hL.at hy
  refine wpAny_bind (wpAny_dictEntries vf lz ?_)
  rw [he]
  have eH:n9.size<=sizeLine:=by
   rw [hT.size]
   have h1:=rR (L.take x) R0
   have h2:(L.take x).length<=L.length:=by rw [List.length_take];lia
   lia
  refine wpAny_bind (wpAny_holding (mf hd' rfl hT.keys eH fun JK JL ni=>?_))
  have JM:JK.get? b=some ob:=(ni.2 b (Ne.symm bD)).trans vf
  refine wpAny_bind (wpAny_dictEpoch JM lz ?_)
  rw [if_neg (by simp)]
  refine wpAny_pure ⟨x+1,JK,_,_,Hv,cv,rfl,JL,?_,cB.trans ni⟩
  have e:L.take (x+1)=L.take x++[y]:=by rw [List.take_succ,hy];rfl
  rw [e]
  unfold cj
  rw [List.foldl_append]
  exact hT.put y.1 y.2 t u'
 ·rintro u s' ⟨i,h',n9,vB,hr,hi,rfl,hd',hT,cB⟩
  have Hw:i=bs.size:=by
   have:=congrArg List.length hr
   simp at this;lia
  have e:L.take i=L:=List.take_of_length_le (by rw [Hw,hL.size];exact Nat.le_refl _)
  rw [e] at hT
  exact wpAny_pure (h h' n9 vB hd' hT cB)
 ·obtain ⟨c,dd,dt,sl⟩:=od
  simp only at dU;subst dU
  exact hd
theorem Ek {Γ:Ctx}{R:Result->Shared->Prop}{p:Pos}{d:Addr}{o:Obj}{es:Array DictEntry}{ep:Nat}(aV:Γ.code=.builtin "dict.__len__" ⟨[.ref d],[]⟩) (rS:(d==sysModules)=false)
  (ho:s.heap.get? d=some o) (hd:o.data=.dict es ep) (kO:gP E o) (base:∀ a o,E.T.get a=some o->gL a E.mu=false->s.heap.get? a=some o)
  (h:R (.ok (.ret (.int es.size s.toks))) {s with toks:=s.toks+1}):wpCode (Mo E) Γ R p s:=by
 refine aP aV F.entry_dict_len ?_
 show wp _ _ (Builtin.Dict.notOrdered "__len__" ⟨[.ref d],[]⟩>>=fun _=>dictSize d>>=fun n=>Builtin.Dict.pendingCount d>>=fun m=>retInt ((n:Int)+m)) _ _ _ _
 rw [Sem.wp_bind']
 refine Sem.wp_mono _ _ _ (fun a p' s1 h'=>?_) (fun e p' s' h'=>h'.elim) _ _ (bm (Q:=fun a s1=>s1=s) (E:=fun _ _=>False) (ef rfl ho kO base rfl) p)
 rw [h',Sem.wp_bind']
 refine Sem.wp_mono _ _ _ (fun a p' s1 h'=>?_) (fun e p' s' h'=>h'.elim) _ _ (bm (Q:=fun a s1=>a=es.size/\s1=s) (E:=fun _ _=>False) ?_ p')
 ·obtain ⟨rfl,rfl⟩:=h'
  rw [Sem.wp_bind']
  unfold Builtin.Dict.pendingCount
  rw [rS]
  simp only [Bool.false_eq_true,if_false]
  exact h
 ·unfold dictSize
  exact wpAny_bind (wpAny_dictEntries ho hd (wpAny_pure ⟨rfl,rfl⟩))
end
section
variable {E:En}{d:Drawn}{os:OsState}
noncomputable def JN (i:Nat) (a:Addr) (o:Obj) (es:Array DictEntry) (ep:Nat) (rS:(a==sysModules)=false) (hd:o.data=.dict es ep) (kO:gP E o) (k:Nat) (hk:es.size=k):aL E d os:=
 aL.leaf Unit () (fun q=>(cN q.code,ad q.m i)) (some ("dict.__len__",[.ref a]),some (a,o)) (fun _ q=>.int (Int.ofNat k) q.tk) (fun _ q=>q.m) (fun _ q=>q.n) (fun _ q=>q.tk+1) (fun _=>True) (by
  intro h₀ Y q Q h g e hc hg hr kk
  obtain ⟨e1,e2⟩:=Prod.ext_iff.mp e
  obtain ⟨pos,e3,e4⟩:=cV e1
  have hp:pos=[.ref a]:=by
   rcases pos with _ | ⟨x,_ | ⟨y,l⟩⟩
   ·cases e4
   ·rw [List.map_cons,List.map_nil] at e4
    injection e4 with e4 _
    rw [cx e4]
   ·rw [List.map_cons,List.map_cons] at e4
    injection e4 with _ e4
    cases e4
  subst hp
  refine Ek (hc.trans e3) rS (hr.own _ _ _ e2) hd kO hr.base ?_
  have z:=kk () trivial h g hg hr
  subst hk
  exact z)
end
section
variable {E:En}{L R0:KV}{ap bp i j n tk:Nat}{as bs:Array DictEntry}{g:Array GenState}{h:Heap}{m:Mm}{oa ob:Obj}{p:Pos}{v:Value}{Γ:Ctx}
theorem El (v:Value):yZ v=Builtin.Dict.readDirectly v>>=fun x=>(.pure (.done (.ret (.bool x))):Sem Fin):=by
 unfold yZ;rw [<- R.bindR_eq,<- Fast.te6336627204499452618];rfl
theorem zY:nm [107,101,121,115]=("keys":Str):=by unfold nm;decide+kernel
theorem Em (v:Value):D0 v=getAttr? v "keys">>=fun x=>(.pure (.done (.ret (.bool x.isSome))):Sem Fin):=by
 unfold D0;rw [<- R.bindR_eq,<- Fast.te18250491105767826471,zY];rfl
section
variable {E:En}{h₀:Heap}{Y:Nat}{d:Drawn}{os:OsState}
theorem tJ {R:Result->Shared->Prop}(hg:E.G g) (hr:ag E h₀ Y m n h) (w:am E h₀ Y R d os ⟨Γ,p,[],yZ v,m,n,tk⟩):
  wp (Mo E) Γ (Builtin.Dict.readDirectly v) (fun x _ s=>R (.ok (.ret (.bool x))) s) (fun e _ s=>R (.error e) s) p ⟨h,g,d,tk,os⟩:=by
 have z:=w h g hg hr
 rw [dO] at z
 rw [El,Sem.wp_bind'] at z
 exact z
theorem Eo {R:Result->Shared->Prop}(hg:E.G g) (hr:ag E h₀ Y m n h) (w:am E h₀ Y R d os ⟨Γ,p,[],D0 v,m,n,tk⟩):
  wp (Mo E) Γ (getAttr? v "keys") (fun x _ s=>R (.ok (.ret (.bool x.isSome))) s) (fun e _ s=>R (.error e) s) p ⟨h,g,d,tk,os⟩:=by
 have z:=w h g hg hr
 rw [dO] at z
 rw [Em,Sem.wp_bind'] at z
 exact z
end
section
variable {h₀:Heap}{Y:Nat}{d:Drawn}{os:OsState}
noncomputable def rT (K:Shared->Prop):Result->Shared->Prop
 | .ok (.ret (.bool true)),s=>K s
 | _,_=>False
theorem kG {R : Result -> Shared -> Prop} {a b : Addr}
    (hg : E.G g) (hr : ag E h₀ Y m n h) (ha : ad m i = some (a, oa)) (hb : ad m j = some (b, ob)) (MM : i ≠ j) (MN : oa.data = .dict as ap) (lz : ob.data = .dict bs bp) (hA : Z as R0) (hB : Z bs L) (rS : (b == sysModules) = false) (h8 : L.length <= 8) (hz : R0.length + L.length <= sizeLine)
    (fin : ∀ h' iQ rU, Z iQ (cj R0 L) -> ag E h₀ Y (cg m i ⟨oa.cls, oa.dict, .dict iQ rU, oa.slots⟩) n h' -> R (.ok (.ret .none)) ⟨h', g, d, tk, os⟩) :
    wp (Mo E) Γ (do Builtin.Dict.mergeDict "dict.update" a b; Builtin.Dict.addKeywords a []; ret .none) (finPost (Mo E) Γ R) (fun e _ s' => R (.error e) s') p ⟨h, g, d, tk, os⟩ := by
  have bD : a ≠ b := fun q => by subst q; exact MM (hr.apart i j _ _ _ ha hb)
  rw [Sem.wp_bind']
  refine Sem.wp_mono (Mo E) Γ _ (fun _ p' s' h' => h' p') (fun e p' s' h' => h'.elim) _ _ (bm (Q := fun _ s' => ∀ p, wp (Mo E) Γ (Builtin.Dict.addKeywords a [] >>= fun _ => ret .none) (finPost (Mo E) Γ R) (fun e _ s' => R (.error e) s') p s') (E := fun _ _ => False) ?_ p)
  refine mg (hr.own _ _ _ ha) MN hA (hr.own _ _ _ hb) lz hB bD rS h8 hz fun h' iQ rU MO hT cB p => ?_
  exact fin h' iQ rU hT (hr.chg ha MO (cB.1.trans hr.size) (Nat.le_refl _) fun b x hb hx => (cB.2 b hb).trans hx)
noncomputable def Hy (w : World) (b1 b2 : Bool) (a da ap b bp : Nat) (as bs : Array DictEntry) (R0 L : KV) (hA : Z as R0) (hB : Z bs L) (h8 : L.length <= 8) (hz : R0.length + L.length <= sizeLine) (is : List Nat) (nd : is.Nodup) (hl : 2 = is.length) : aL (E2 (W2 w b1 b2)) d os :=
  aL.sub0 (Nat × Nat × Nat × Array DictEntry × Nat) ⟨0, 0, 0, #[], 0⟩ (.builtin "dict.update" ⟨[.ref (a + 1109), .ref (b + 1109)], []⟩) is [(a + 1109, ah da as ap), (b + 1109, au bs bp)] nd hl
    (fun _ => .ret .none) (fun x => [(a + 1109, ah da x.2.2.2.1 x.2.2.2.2), (b + 1109, au bs bp)]) (fun x => x.1 + 1109) (fun x => x.2.1) (fun x => Z x.2.2.2.1 (cj R0 L)) (fun x => by rw [<- hl]; rfl) (by
      intro Γ h g p n tk Q aV hg hr k
      obtain ⟨j, rfl⟩ : ∃ j, n = j + 1109 := ⟨n - 1109, (Nat.sub_add_cancel (Nat.le_of_lt (Nat.lt_of_le_of_lt (Nat.le_add_left 1109 a) (hr.lt (i := 0) rfl)))).symm⟩
      refine aP aV F.entry_dict_update ?_
      show wp _ _ ((Builtin.Dict.notOrdered "update" ⟨[.ref (a + 1109), .ref (b + 1109)], []⟩ >>= fun _ => (pure (a + 1109, [Value.ref (b + 1109)]) : Sem (Addr × List Value))) >>= fun x => Builtin.Dict.updateCommon "dict.update" "update" x.1 x.2 []) _ _ _ _
      rw [Sem.wp_bind', Sem.wp_bind']
      refine Sem.wp_mono _ _ _ (fun x p' s1 h' => ?_) (fun e p' s' h' => h'.elim) _ _ (bm (Q := fun a s1 => s1 = ⟨h, g, d, tk, os⟩) (E := fun _ _ => False) (ef rfl (hr.own 0 _ _ rfl) (.inr ⟨1093, rfl, by kernel_rfl, rfl⟩) hr.base rfl) p)
      rw [h', Sem.wp_pure']
      show wp _ _ (Builtin.Dict.updateFrom "dict.update" (a + 1109) (.ref (b + 1109)) [] .none) _ _ _ _
      unfold Builtin.Dict.updateFrom
      rw [Sem.wp_bind']
      refine Sem.wp_mono _ _ _ (fun x p' s1 h' => ?_) (fun e p' s' h' => h'.elim) _ _ (bm (Q := fun a s1 => a = .type "dict" /\ s1 = ⟨h, g, d, tk, os⟩) (E := fun _ _ => False) (wpAny_typeOf (T := "dict") (show Shared.TypeIs ⟨h, g, d, tk, os⟩ (.ref (b + 1109)) "dict" from ⟨_, hr.own 1 _ _ rfl, rfl⟩) ⟨rfl, rfl⟩) p')
      obtain ⟨rfl, rfl⟩ := h'
      rw [if_neg (by decide)]
      unfold Builtin.Dict.merge
      dsimp only
      rw [Sem.wp_bind', Sem.wp_bind']
      refine Sem.wp_mono _ _ _ (fun x p' s' h' => ?_) (fun e p' s' h' => h'.elim) _ _ (tJ (R := rT fun s' => ∀ p, wp (Mo (E2 (W2 w b1 b2))) Γ (do Builtin.Dict.mergeDict "dict.update" (a + 1109) (b + 1109); Builtin.Dict.addKeywords (a + 1109) []; ret .none) (finPost (Mo (E2 (W2 w b1 b2))) Γ Q) (fun e _ s' => Q (.error e) s') p s') hg hr
        (am.sub [1] rfl (by decide) rfl fun h1 dD => JI w b1 b2 j tk Γ b bp bs p' (Nat.le_refl _) fun p h2 g2 ao cA => ?_))
      · cases x with
        | false => exact h'.elim
        | true =>
          have h' := h' p'
          rw [Sem.wp_bind'] at h'
          exact h'
      · have jg := dD.join' [1] (by decide) rfl cA rfl
        intro p
        refine kG (i := 0) (j := 1) ao jg rfl rfl (by decide) rfl rfl hA hB rfl h8 hz fun h' iQ rU hT aJ => ?_
        exact k ⟨j, tk, 0, iQ, rU⟩ hT h' g2 ao aJ)
noncomputable def Hz (w : World) (b1 b2 : Bool) (a da ap b bd bp : Nat) (as bs : Array DictEntry) (R0 L : KV) (hA : Z as R0) (hB : Z bs L) (h8 : L.length <= 8) (hz : R0.length + L.length <= sizeLine) (is : List Nat) (nd : is.Nodup) (hl : 3 = is.length) : aL (E2 (W2 w b1 b2)) d os :=
  aL.sub0 (Nat × Nat × Nat × Array DictEntry × Nat) ⟨0, 0, 0, #[], 0⟩ (.builtin "dict.update" ⟨[.ref (a + 1109), .ref (b + 1109)], []⟩) is [(a + 1109, ah da as ap), (bd + 1109, av), (b + 1109, ah (bd + 1109) bs bp)] nd hl
    (fun _ => .ret .none) (fun x => [(a + 1109, ah da x.2.2.2.1 x.2.2.2.2), (bd + 1109, av), (b + 1109, ah (bd + 1109) bs bp)]) (fun x => x.1 + 1109) (fun x => x.2.1) (fun x => Z x.2.2.2.1 (cj R0 L)) (fun x => by rw [<- hl]; rfl) (by
      intro Γ h g p n tk Q aV hg hr k
      obtain ⟨j, rfl⟩ : ∃ j, n = j + 1109 := ⟨n - 1109, (Nat.sub_add_cancel (Nat.le_of_lt (Nat.lt_of_le_of_lt (Nat.le_add_left 1109 a) (hr.lt (i := 0) rfl)))).symm⟩
      refine aP aV F.entry_dict_update ?_
      show wp _ _ ((Builtin.Dict.notOrdered "update" ⟨[.ref (a + 1109), .ref (b + 1109)], []⟩ >>= fun _ => (pure (a + 1109, [Value.ref (b + 1109)]) : Sem (Addr × List Value))) >>= fun x => Builtin.Dict.updateCommon "dict.update" "update" x.1 x.2 []) _ _ _ _
      rw [Sem.wp_bind', Sem.wp_bind']
      refine Sem.wp_mono _ _ _ (fun x p' s1 h' => ?_) (fun e p' s' h' => h'.elim) _ _ (bm (Q := fun a s1 => s1 = ⟨h, g, d, tk, os⟩) (E := fun _ _ => False) (ef rfl (hr.own 0 _ _ rfl) (.inr ⟨1093, rfl, by kernel_rfl, rfl⟩) hr.base rfl) p)
      rw [h', Sem.wp_pure']
      show wp _ _ (Builtin.Dict.updateFrom "dict.update" (a + 1109) (.ref (b + 1109)) [] .none) _ _ _ _
      unfold Builtin.Dict.updateFrom
      rw [Sem.wp_bind']
      refine Sem.wp_mono _ _ _ (fun x p' s1 h' => ?_) (fun e p' s' h' => h'.elim) _ _ (bm (Q := fun a s1 => a = .ref 1093 /\ s1 = ⟨h, g, d, tk, os⟩) (E := fun _ _ => False) (by
        unfold typeOf
        refine wpAny_bind (wpAny_loadPart (hr.own 2 _ _ rfl) ?_)
        exact wpAny_pure ⟨rfl, rfl⟩) p')
      obtain ⟨rfl, rfl⟩ := h'
      rw [if_pos (by decide)]
      rw [Sem.wp_bind']
      refine Sem.wp_mono _ _ _ (fun x p' s' h' => ?_) (fun e p' s' h' => h'.elim) _ _ (Eo (R := rT fun s' => ∀ p, wp (Mo (E2 (W2 w b1 b2))) Γ (do Builtin.Dict.merge "dict.update" (a + 1109) (.ref (b + 1109)); Builtin.Dict.addKeywords (a + 1109) []; ret .none) (finPost (Mo (E2 (W2 w b1 b2))) Γ Q) (fun e _ s' => Q (.error e) s') p s') hg hr
        (am.sub [1, 2] rfl (by decide) rfl fun h1 dD => JJ w b1 b2 j tk Γ b bd bp bs p' (Nat.le_refl _) fun p h2 g2 ao cA => ?_))
      · cases x with
        | none => exact h'.elim
        | some v => exact h' p'
      have jg := dD.join' [1, 2] (by decide) rfl cA rfl
      intro p3
      unfold Builtin.Dict.merge
      rw [Sem.wp_bind', Sem.wp_bind']
      refine Sem.wp_mono _ _ _ (fun x p' s' h' => ?_) (fun e p' s' h' => h'.elim) _ _ (tJ (R := rT fun s' => ∀ p, wp (Mo (E2 (W2 w b1 b2))) Γ (do Builtin.Dict.mergeDict "dict.update" (a + 1109) (b + 1109); Builtin.Dict.addKeywords (a + 1109) []; ret .none) (finPost (Mo (E2 (W2 w b1 b2))) Γ Q) (fun e _ s' => Q (.error e) s') p s') ao jg
        (am.sub [1, 2] rfl (by decide) rfl fun h4 zr => JH w b1 b2 (j + 1) _ Γ b bd bp bs p3 (Nat.le_refl _) fun p h5 g5 fY rN => ?_))
      · cases x with
        | false => exact h'.elim
        | true =>
          have h' := h' p'
          rw [Sem.wp_bind'] at h'
          exact h'
      · have MP := zr.join' [1, 2] (by decide) rfl rN rfl
        intro p
        refine kG (i := 0) (j := 2) fY MP rfl rfl (by decide) rfl rfl hA hB rfl h8 hz fun h' iQ rU hT aJ => ?_
        exact k ⟨j + 1, _, 0, iQ, rU⟩ hT h' g5 fY aJ)
end
end
section
variable {a b da db ep fp j k rp t tk:Nat}{b1 b2:Bool}{d:Drawn}{es fs rs:Array DictEntry}{f1:FL}{f2:FN}{p1 p2 p3:Pos}{r:KV}{w:World}
theorem Ep {os:OsState}{F:KV}(hr:Z rs r) (hF:Z fs F) (hz:r.length+F.length<=sizeLine) (HA:rs.size=k+1) (HB:k < 7):
  Pw w b1 b2 d os 4 ⟨(.call (.ref 936) ⟨[.ref (a+1109),.ref (b+1109)],[]⟩),none,none,[(fl f1,p1),(fn f2,p2),(CC,p3)],none⟩ (den (.call (.ref 936) ⟨[.ref (a+1109),.ref (b+1109)],[]⟩)) [Aj da,Ac a da rs rp,Aj db,Ac b db fs fp] (j+1109) tk (.u (JN 1 (a+1109) (AP da rs rp) rs rp rfl rfl (bO _ _ _ _) (k+1) HA)<| .c (Ht w b1 b2 (j+1) (j+6) a b (da+1109) (db+1109) rp fp (j+4) j tk (tk+1) (tk+2) (tk+13) 4 rs fs r F hr hF hz [1,3,5,10,8] (by decide) rfl) fun x2=>.e (.e (.done (.ret .none)) [Aj da,(a+1109,AP da (F4.rs x2) (x2.rp)),Aj db,Ac b db fs fp] ((x2.j)+1109) ((x2.2)+2))):=by
 rcases k with _ | _ | _ | _ | _ | _ | _ | k<;>(first | exact absurd HB (by lia) | skip)<;>cases b1<;>exact pc 397 (Hx 0x1102000020000200026000000080008008888000077000000000000000000000000000000007740040000040040000000477740070000777700000000000040000600620666666000) [(Hx 0x11b44a0a0aa044004034000400040004666020010220002002000000026),[6,5,5,0,5,0,5,0,5]] [] (by kernel_rfl)
theorem Er {os:OsState}{F:KV}(hr:Z rs r) (hF:Z fs F) (hz:r.length+F.length<=sizeLine):
  Qb b1 b2 d os fun b1 b2=>⟨Ae w b1 b2,4,⟨(.call (.ref 944) ⟨[.ref (a+1109),.ref (b+1109)],[]⟩),none,none,[(fl f1,p1),(fn f2,p2),(CC,p3)],none⟩,den (.call (.ref 944) ⟨[.ref (a+1109),.ref (b+1109)],[]⟩),[Aj da,Ac a da rs rp,Aj db,Ac b db fs fp],j+1109,tk,.c (Hu w b1 b2 (j+1) (j+6) a b (da+1109) (db+1109) rp fp (j+2) j tk (tk+1) (tk+2) (tk+4) 4 rs fs r F hr hF hz [1,3,5,10,6] (by decide) rfl) fun x1=>.e (.e (.done (.ret .none)) [Aj da,(a+1109,AP da (F5.rs x1) (x1.rp)),Aj db,Ac b db fs fp] ((x1.j)+1109) ((x1.2)+2))⟩:=bU 372 (Hx 0x11b44a0a0aa044004034000400040004600000009000900999900008800000000000000000000000000000000884004000004004000000048884008000088880000000000004000060066020010220002002000000026600666666000) [[6,5,5,0,5,0,5,0,5]] [] (by kernel_rfl)
noncomputable abbrev Bm:=fun a b=>((a+1109,ah (b+1109) #[] 0):Addr×Obj)
theorem Es {os:OsState}{F:KV}(hF:Z fs F) (h8:F.length<=8):
  Qb b1 b2 d os fun b1 b2=>⟨Ae w b1 b2,4,⟨(.call (.ref 936) ⟨[.ref (a+1109),.ref (b+1109)],[]⟩),none,none,[(fl f1,p1),(fn f2,p2),(CC,p3)],none⟩,den (.call (.ref 936) ⟨[.ref (a+1109),.ref (b+1109)],[]⟩),[Aj da,Bm a da,Aj db,Ac b db fs fp],j+1109,tk,.c (Hz w b1 b2 a (da+1109) 0 b db fp #[] fs [] F ei hF h8 (by simp;exact dz (by lia)) [1,2,3] (by decide) rfl) fun x1=>.e (.e (.done (.ret .none)) [Aj da,(a+1109,AP da (x1.snd.snd.snd.fst) (x1.snd.snd.snd.snd)),Aj db,Ac b db fs fp] ((x1.fst)+1109) ((x1.snd.1)+2))⟩:=bU 383 (Hx 0x11002202a0a6020000999090999999990220090990000006000002002000020000200026000000080008008888000077000000000000000000000000000000007740040000040040000000477740070000777700000000000040000600620666666000) [[6,5,5,0,5,0,5,0,5]] [] (by kernel_rfl)
noncomputable abbrev Ar:=fun a b c=>((a+1109,au b c):Addr×Obj)
theorem Et {os:OsState}{F:KV}{f1:CP}(hF:Z es F) (h8:F.length<=8):
  Qb b1 b2 d os fun b1 b2=>⟨Ae w b1 b2,1,⟨(.call (.ref 1093) ⟨[.ref (t+1109)],[]⟩),none,none,[(cp f1,p1),(fn f2,p2),(CC,p3)],none⟩,den (.call (.ref 1093) ⟨[.ref (t+1109)],[]⟩),[Ar t es ep],j+1109,tk,.c (Hy w b1 b2 (j+1) (j+1109) 0 t ep #[] es [] F ei hF h8 (by simp;exact dz (by lia)) [2,0] (by decide) rfl) fun x1=>.e (.e (.done (.ret (.ref (j+1110)))) [Ar t es ep,Aj j,(j+1110,AP j (x1.snd.snd.snd.fst) (x1.snd.snd.snd.snd))] ((x1.fst)+1109) ((x1.snd.1)+2))⟩:=bU 542 (Hx 0x110033030ff00ffb030000eee0e0eeeeeeee03300e0ee000000b00000300300003000030003b00000d000d00dddd0000cc00000000000000000000000000000000cc1010010101ccc100c0000cccc00000000000010000b00b20bbbbbb00008008944494455000203300000030030000000350330707030000666060666666660330060660000005000002055555500000000303000000000000000000000) [[11,10,10,0,10,0,10,0,10]] [1,2] (by kernel_rfl)
end
noncomputable def eJ (A B:KV):Bool:=((A++B).map fun x=>ct A x.1==ct B x.1).all id
noncomputable def HC (bb:Bool):List Nat:=@Bool.rec (fun _=>List Nat) [2,1] [1,2,1] bb
theorem tK {M:Model}{Γ:Ctx}{c:Code}{Q:Result->Shared->Prop}{p:Pos}{s:Shared}{bb:Bool}(aV:Γ.code=c) (ho:eb Γ=(none,none,none,HC bb,some CC)) (k:∀ fe pe f1 p1 f2 p2 p3,wpCode M ⟨c,none,none,iU bb fe pe f1 p1 f2 p2 p3,none⟩ Q p s):wpCode M Γ Q p s:=by
 cases bb with
 | false=>exact kx aV ho fun f1 f2 p1 p2 p3=>k f2 p2 f1 p1 f2 p2 p3
 | true=>exact ro aV ho fun fe f1 f2 pe p1 p2 p3=>k fe pe f1 p1 f2 p2 p3
section
variable {w:World}{b1 b2:Bool}{d:Drawn}{os:OsState}
noncomputable def vC (v:Bool) (cd:Nat) (w:World):Obj:=@Bool.rec (fun _=>Obj) (cJ (cd+1109)) (jH w) v
noncomputable def JO (v bb:Bool) (ia ib i5:Nat) (a b da db ep fp cd:Nat) (es fs:Array DictEntry) {A B:KV}(hA:Z es A) (hB:Z fs B) (bD:A≠[]) (nd:[ia,ib,i5].Nodup):aL (E2 (W2 w b1 b2)) d os:=
 aL.sub (Nat×Nat×Nat) (0,0,0) (EQ a b) (HC bb) [ia,ib,i5] [(a+1109,ah da es ep),(b+1109,ah db fs fp),(975,vC v cd (W2 w b1 b2))] nd rfl
  (fun _=>.ret (.bool (eJ A B))) (fun x=>[(a+1109,ah da es ep),(b+1109,ah db fs fp),(975,cJ (x.1+1109))]) (fun x=>x.2.1+1109) (fun x=>x.2.2) (fun _=>True) (fun _=>rfl) (by
   intro Γ h g p n tk Q hc ho hg hr K
   refine tK hc ho fun fe pe f1 p1 f2 p2 p3=>?_
   obtain ⟨j,rfl⟩:=dn (i:=0) hr rfl
   refine aD (E:=E2 (W2 w b1 b2)) hg hr ?_
   cases v with
   | true=>exact kF (cd:=cd) hA hB bD fun md j' aF h' g' hb aJ=>K (md,j',aF) trivial h' g' hb aJ
   | false=>exact jI (cd:=cd) hA hB bD fun md j' aF h' g' hb aJ=>K (md,j',aF) trivial h' g' hb aJ)
end
noncomputable abbrev AA:=fun a=>(⟨.none,none,.fields #[(.int 578 0),(.int 19 0),(.ref ((a)+1109))],#[]⟩:Obj)
theorem Eu {d:Drawn}{os:OsState}{w:World}{b1 b2:Bool}{j tk:Nat}{a b da db ep fp cd:Nat}{es fs:Array DictEntry}{A B:KV}{f1:FL}{f2:FN}{p1 p2 p3:Pos}(hA:Z es A) (hB:Z fs B) (bD:A≠[]):
  Qb b1 b2 d os fun b1 b2=>⟨Ae w b1 b2,3,⟨(.call (.ref 987) ⟨[.ref (a+1109),.ref (b+1109)],[]⟩),none,none,[(fl f1,p1),(fn f2,p2),(CC,p3)],none⟩,den (.call (.ref 987) ⟨[.ref (a+1109),.ref (b+1109)],[]⟩),[Ak a da es ep,Ak b db fs fp,(975,vC false cd (W2 w b1 b2))],j+1109,tk,.c (JO false true 0 1 2 a b da db ep fp cd es fs hA hB bD (by decide)) fun x1=>.e (.e (.done (.ret (.bool (!eJ A B)))) [Ak a da es ep,Ak b db fs fp,(975,(AA x1.fst))] ((x1.snd.fst)+1109) ((x1.snd.2)))⟩:=bU 112 (Hx 0x110000121442000040000444400) [[]] [] (by kernel_rfl)
section
variable {E:En}{d:Drawn}{os:OsState}
noncomputable def ix (i:Nat) (a:Addr) (o:Obj) (es:Array DictEntry) (ep:Nat) (hd:o.data=.dict es ep) {A:KV}(hA:Z es A) (k:Int):aL E d os:=
 aL.leaf Nat 0 (fun q=>(cN q.code,ad q.m i)) (some ("dict.get",[.ref a,.int k 0,.int 0 0]),some (a,o)) (fun x _=>.int (ct A k) x) (fun _ q=>q.m) (fun _ q=>q.n) (fun _ q=>q.tk+1) (fun _=>True) (by
  intro h₀ Y q Q h g e hc hg hr kk
  obtain ⟨e1,e2⟩:=Prod.ext_iff.mp e
  obtain ⟨pos,e3,e4⟩:=cV e1
  obtain ⟨x,y,z,rfl,h1,h2,h3⟩:=i3 e4
  obtain rfl:=cx h1
  obtain ⟨u,rfl⟩:=bx h2
  obtain ⟨u3,rfl⟩:=bx h3
  refine sK (hc.trans e3) (hr.own _ _ _ e2) hd hA.keys ?_
  rcases hA.get k with ⟨x,tx,e5,e6⟩ | ⟨e5,e6⟩
  ·rw [e6]
   have k2:=kk tx trivial h g hg hr
   rw [show ct A k=x by unfold ct;rw [e5];rfl] at k2
   exact k2
  ·rw [e6]
   have k2:=kk u3 trivial h g hg hr
   rw [show ct A k=0 by unfold ct;rw [e5];rfl] at k2
   exact k2)
end
noncomputable def Ev (vs:List Value) (e:Nat):Obj:=⟨.type "list",none,.seq vs.toArray e,#[]⟩
section
variable {A0 A1 A2 A3:KV}{b1 b2:Bool}{d:Drawn}{ep0 ep1 ep2 ep3 j kt t t0 t1 te tk:Nat}{es0 es1 es2 es3:Array DictEntry}{f1 f2:FL}{f3:FN}{k:Int}{p1 p2 p3 p4:Pos}{w:World}
theorem Ew {os:OsState}{t2 t3:Nat}(h0:Z es0 A0) (h1:Z es1 A1) (h2:Z es2 A2) (h3:Z es3 A3):
  Qw w b1 b2 d os fun W=>⟨E2 W,5,⟨(.call (.ref 1102) ⟨[.ref (t+1109),.int k kt],[]⟩),none,none,[(fl f1,p1),(fl f2,p2),(fn f3,p3),(CC,p4)],none⟩,den (.call (.ref 1102) ⟨[.ref (t+1109),.int k kt],[]⟩),[(t+1109,Ev [.ref (t0+1109),.ref (t1+1109),.ref (t2+1109),.ref (t3+1109)] te),(t0+1109,au es0 ep0),(t1+1109,au es1 ep1),(t2+1109,au es2 ep2),(t3+1109,au es3 ep3)],j+1109,tk,.c (ix 1 (t0+1109) (au es0 ep0) es0 ep0 rfl h0 k) fun x0=>.c (ix 2 (t1+1109) (au es1 ep1) es1 ep1 rfl h1 k) fun x1=>.c (ix 3 (t2+1109) (au es2 ep2) es2 ep2 rfl h2 k) fun x2=>.c (ix 4 (t3+1109) (au es3 ep3) es3 ep3 rfl h3 k) fun x3=>.e (.e (.done (.ret (.ref (j+1112)))) [(t+1109,(Ev [(.ref (t0+1109)),(.ref (t1+1109)),(.ref (t2+1109)),(.ref (t3+1109))] te)),(t0+1109,(au es0 ep0)),(t1+1109,(au es1 ep1)),(t2+1109,(au es2 ep2)),(t3+1109,(au es3 ep3)),(j+1112,⟨(.type "list"),none,.seq #[(.int (ct A0 k) x0),(.int (ct A1 k) x1),(.int (ct A2 k) x2),(.int (ct A3 k) x3)] 4,#[]⟩)] (j+1116) (tk+13))⟩:=nX 297 (Hx 0x112072222aaa88188080808080880801011600776600) [(Hx 0x113073333aaa8818808080999090),(Hx 0x114074444aaa8818808080999090),(Hx 0x115075555aaa8818808080999090),(Hx 0x1aaac8818808080999090)] [8] 297 (Hx 0x112072222aaa88188080800801011600776600) [(Hx 0x113073333aaa8818808080999090),(Hx 0x114074444aaa8818808080999090),(Hx 0x115075555aaa8818808080999090),(Hx 0x1aaac8818808080999090)] [8] (by kernel_rfl)
theorem Ey {os:OsState}{t2 t3:Nat}(h0:Z es0 A0) (h1:Z es1 A1) (h2:Z es2 A2) (h3:Z es3 A3):
  Qw w b1 b2 d os fun W=>⟨E2 W,5,⟨(.call (.ref 1102) ⟨[.ref (t+1109),.int k kt],[]⟩),none,none,[(fl f1,p1),(fn f3,p3),(CC,p4)],none⟩,den (.call (.ref 1102) ⟨[.ref (t+1109),.int k kt],[]⟩),[(t+1109,Ev [.ref (t0+1109),.ref (t1+1109),.ref (t2+1109),.ref (t3+1109)] te),(t0+1109,au es0 ep0),(t1+1109,au es1 ep1),(t2+1109,au es2 ep2),(t3+1109,au es3 ep3)],j+1109,tk,.c (ix 1 (t0+1109) (au es0 ep0) es0 ep0 rfl h0 k) fun x0=>.c (ix 2 (t1+1109) (au es1 ep1) es1 ep1 rfl h1 k) fun x1=>.c (ix 3 (t2+1109) (au es2 ep2) es2 ep2 rfl h2 k) fun x2=>.c (ix 4 (t3+1109) (au es3 ep3) es3 ep3 rfl h3 k) fun x3=>.e (.e (.done (.ret (.ref (j+1112)))) [(t+1109,(Ev [(.ref (t0+1109)),(.ref (t1+1109)),(.ref (t2+1109)),(.ref (t3+1109))] te)),(t0+1109,(au es0 ep0)),(t1+1109,(au es1 ep1)),(t2+1109,(au es2 ep2)),(t3+1109,(au es3 ep3)),(j+1112,⟨(.type "list"),none,.seq #[(.int (ct A0 k) x0),(.int (ct A1 k) x1),(.int (ct A2 k) x2),(.int (ct A3 k) x3)] 4,#[]⟩)] (j+1116) (tk+13))⟩:=nX 297 (Hx 0x112072222aaa88188080808080880801011600776600) [(Hx 0x113073333aaa8818808080999090),(Hx 0x114074444aaa8818808080999090),(Hx 0x115075555aaa8818808080999090),(Hx 0x1aaac8818808080999090)] [8] 297 (Hx 0x112072222aaa88188080800801011600776600) [(Hx 0x113073333aaa8818808080999090),(Hx 0x114074444aaa8818808080999090),(Hx 0x115075555aaa8818808080999090),(Hx 0x1aaac8818808080999090)] [8] (by kernel_rfl)
end
noncomputable def F6 (n:Int) (t u v:Nat):Obj:=⟨.type "range",none,.fields #[.int 0 t,.int n u,.int 1 v],#[]⟩
theorem zZ (n:Int) (hn:0<=n):Builtin.Range.rangeSize 0 n 1=n:=by
 unfold Builtin.Range.rangeSize
 rw [if_pos (by decide)]
 by_cases h:(0:Int) < n
 ·rw [if_pos h];lia
 ·rw [if_neg h];lia
theorem vD (n:Int) (hn:0<=n) (vE:n<=63):(Builtin.Range.rangeFitsLong 0&&Builtin.Range.rangeFitsLong n&&Builtin.Range.rangeFitsLong 1&&Builtin.Range.rangeFitsLong n&&
  (n==0||if (1:Int)>0 then Builtin.Range.rangeFitsLong (n+(1 - 1)) else Builtin.Range.rangeFitsLong (n+(1+1))))=true:=by
 have h1:Builtin.Range.rangeFitsLong n=true:=by unfold Builtin.Range.rangeFitsLong;simp;lia
 have h2:Builtin.Range.rangeFitsLong (n+(1 - 1))=true:=by unfold Builtin.Range.rangeFitsLong;simp;lia
 rw [h1,if_pos (by decide),h2]
 have h3:Builtin.Range.rangeFitsLong 0=true:=by unfold Builtin.Range.rangeFitsLong;decide
 have h4:Builtin.Range.rangeFitsLong 1=true:=by unfold Builtin.Range.rangeFitsLong;decide
 rw [h3,h4];simp
theorem mP {E:En}{A:Around}{X:Value->Shared->Prop}{s:Shared}{r:Addr}{n:Int}{t u v:Nat}{Q:PySem.Fin->Shared->Prop}(hl:s.heap.get? r=some (F6 n t u v)) (hn:0<=n) (vE:n<=63)
  (h:Q (.done (.ret (.ref s.heap.objs.size))) {s with heap:=s.heap.push (aY 0 n 1)}):wpAny (Mo E) A (Builtin.«range.__iter__» ⟨[.ref r],[]⟩) Q X s:=by
 have hs:=zZ n hn
 have hm:=vD n hn vE
 unfold Builtin.«range.__iter__» Builtin.Range.rangeFields
 refine wpAny_bind (wpAny_pure ?_)
 dsimp only
 refine wpAny_bind (wpAny_bind (wpAny_field hl rfl (x:=.int 0 t) rfl (wpAny_bind (wpAny_pure (wpAny_bind (wpAny_field hl rfl (x:=.int n u) rfl (wpAny_bind (wpAny_pure (wpAny_bind (wpAny_field hl rfl (x:=.int 1 v) rfl (wpAny_bind (wpAny_pure ?_))))))))))))
 refine wpAny_pure ?_
 dsimp only
 rw [hs,hm]
 simp only [Bool.not_true,Bool.false_eq_true,if_false,if_true]
 refine wpAny_bind ?_
 unfold newFields
 exact wpAny_newObj_type (wpAny_pure h) (by size_fits)
section
variable {E:En}{d:Drawn}{os:OsState}
noncomputable def vF (i r:Nat) (n:Int) (t u v:Nat) (hn:0<=n) (vE:n<=63):aL E d os:=
 aL.leaf Unit () (fun q=>(cN q.code,ad q.m i)) (some ("range.__iter__",[.ref r]),some (r,F6 n t u v)) (fun _ q=>.ref q.n) (fun _ q=>d7 q.m (q.n,aY 0 n 1)) (fun _ q=>q.n+1) (fun _ q=>q.tk) (fun _=>True) (by
  intro h₀ Y q Q h g e' hc hg hr kk
  simp only [Prod.mk.injEq] at e'
  obtain ⟨e1,e2⟩:=e'
  refine aP (hc.trans (iv e1)) F.entry_range_iter ?_
  refine Sem.wp_mono _ _ _ (fun a p' s' h'=>?_) (fun e p' s' h'=>h'.elim) _ _ (bm (Q:=fun f s'=>∃ v,f=.done (.ret v)/\Q (.ok (.ret v)) s') (E:=fun _ _=>False)
   (mP (hr.own _ _ _ e2) hn vE ⟨_,rfl,by
    have z:=kk () trivial _ g hg (hr.push (o:=aY 0 n 1) rfl)
    rw [<- hr.size] at z
    exact z⟩) _)
  obtain ⟨v,rfl,h'⟩:=h'
  exact h')
noncomputable def HD (i:Nat) (l ep:Nat) (xs:Array Value) (hx:xs.size<=63):aL E d os:=
 aL.leaf Unit () (fun q=>(cN q.code,ad q.m i)) (some ("len",[.ref l]),some (l,ac xs ep)) (fun _ q=>.int (Int.ofNat xs.size) (q.tk+1)) (fun _ q=>q.m) (fun _ q=>q.n) (fun _ q=>q.tk+2) (fun _=>True) (by
  intro h₀ Y q Q h g e' hc hg hr kk
  simp only [Prod.mk.injEq] at e'
  obtain ⟨e1,e2⟩:=e'
  refine aP (hc.trans (iv e1)) entry_len ?_
  refine Sem.wp_mono _ _ _ (fun a p' s' h'=>?_) (fun e p' s' h'=>h'.elim) _ _ (bm (Q:=fun f s'=>∃ v,f=.done (.ret v)/\Q (.ok (.ret v)) s') (E:=fun _ _=>False)
   (wpAny_len_body_list (l:=l) (items:=xs) (Q:=fun v s'=>Q (.ok (.ret v)) s') ⟨_,hr.own _ _ _ e2,rfl,ep,rfl⟩ (by lia) (kk () trivial h g hg hr)) _)
  obtain ⟨v,rfl,h'⟩:=h'
  exact h')
end
noncomputable def ab (w:World) (l:Nat):Env:={b6 w 1107 (l+1109) with cells:=[(u0,l+1111),(DZ,l+1110)]}
noncomputable def bM (a b c d:Nat):Array Value:=#[.ref (a+1109),.ref (b+1109),.ref (c+1109),.ref (d+1109)]
theorem og {E:En}{A:Around}{X:Value->Shared->Prop}{s:Shared}{l e:Nat}{xs:Array Value}{k:Int}{t:Tok}{x:Value}{Q:PySem.Fin->Shared->Prop}(ho:s.heap.get? l=some (ac xs e))
  (h0:0<=k) (F7:k < 2 ^ 63) (hx:xs[k.toNat]?=some x) (h:Q (.done (.ret x)) s):wpAny (Mo E) A (Builtin.«list.__getitem__» ⟨[.ref l,.int k t],[]⟩) Q X s:=by
 show wpAny _ _ (Builtin.List.listSubscript? (.int k t)>>=_) _ _ s
 refine wpAny_bind (wpAny_listSubscript_int (fitsIndex_of h0 F7) ?_)
 clear F7
 obtain ⟨j,rfl⟩:=Int.eq_ofNat_of_zero_le h0
 have Al:xs[j]?=some x:=hx
 show wpAny _ _ ((seqItemAt l j>>=fun r=>pure (r.map (j,·)))>>=_) _ _ s
 refine wpAny_bind (wpAny_bind (wpAny_seqItemAt ho rfl (wpAny_pure ?_)))
 rw [Al]
 first
  | exact wpAny_bind (wpAny_pure (wpAny_pure h))
  | exact wpAny_pure h
  | exact wpAny_bind (wpAny_pure h)
theorem vG {M:Model}{A:Around}{X:Value->Shared->Prop}{s:Shared}{a:Int}{t u:Tok}{Q:PySem.Fin->Shared->Prop}(h:Q (.done (.ret (.int (a.fdiv 5) s.toks))) {s with toks:=s.toks+1}):
  wpAny M A (Builtin.«int.__floordiv__» ⟨[.int a t,.int 5 u],[]⟩) Q X s:=by
 have vH:¬((5:Int)==0)=true:=by decide
 have JP:¬(Builtin.divisionGoesByPylong a 5)=true:=by
  unfold Builtin.divisionGoesByPylong
  have:decide ((if (5:Int)==0 then 0 else (5:Int).natAbs.log2 / 30+1)>300)=false:=by decide+kernel
  dsimp only
  rw [this];simp
 obtain ⟨hp,g,d,tk,os⟩:=s;wp_walk;exact h
section
variable {E:En}{d:Drawn}{os:OsState}
noncomputable def bz (i l ep:Nat) (xs:Array Value) (k:Int) (v:Value) (h0:0<=k) (h1:k < 64) (hx:xs[k.toNat]?=some v):aL E d os:=
 aL.leaf Unit () (fun q=>(cN q.code,ad q.m i)) (some ("list.__getitem__",[.ref l,.int k 0]),some (l,ac xs ep)) (fun _ q=>v) (fun _ q=>q.m) (fun _ q=>q.n) (fun _ q=>q.tk) (fun _=>True) (by
  intro h₀ Y q Q h g e hc hg hr kk
  obtain ⟨e1,e2⟩:=Prod.ext_iff.mp e
  obtain ⟨pos,e3,e4⟩:=cV e1
  obtain ⟨x,y,rfl,h2,h3⟩:=fm e4
  obtain rfl:=cx h2
  obtain ⟨u,rfl⟩:=bx h3
  refine aP (hc.trans e3) entry_list_getitem ?_
  refine Sem.wp_mono _ _ _ (fun a p' s' h'=>?_) (fun e p' s' h'=>h'.elim) _ _ (bm (Q:=fun f s'=>∃ v,f=.done (.ret v)/\Q (.ok (.ret v)) s') (E:=fun _ _=>False)
   (og (hr.own _ _ _ e2) h0 (by lia) hx ⟨_,rfl,kk () trivial h g hg hr⟩) _)
  obtain ⟨v,rfl,h'⟩:=h'
  exact h')
noncomputable def iy (a:Int):aL E d os:=
 aL.leaf Unit () (fun q=>cN q.code) (some ("int.__floordiv__",[.int a 0,.int 5 0])) (fun _ q=>.int (a.fdiv 5) q.tk) (fun _ q=>q.m) (fun _ q=>q.n) (fun _ q=>q.tk+1) (fun _=>True) (by
  intro h₀ Y q Q h g e1 hc hg hr kk
  obtain ⟨pos,e3,e4⟩:=cV e1
  obtain ⟨x,y,rfl,h2,h3⟩:=fm e4
  obtain ⟨u,rfl⟩:=bx h2
  obtain ⟨u',rfl⟩:=bx h3
  refine aP (hc.trans e3) F.entry_int_floordiv ?_
  refine Sem.wp_mono _ _ _ (fun a p' s' h'=>?_) (fun e p' s' h'=>h'.elim) _ _ (bm (Q:=fun f s'=>∃ v,f=.done (.ret v)/\Q (.ok (.ret v)) s') (E:=fun _ _=>False)
   (vG ⟨_,rfl,kk () trivial h g hg hr⟩) _)
  obtain ⟨v,rfl,h'⟩:=h'
  exact h')
end
section
variable {A:KV}{b1 b2:Bool}{d:Drawn}{e0 ep0 ep1 ep2 ep3 it j k1 k2 k3 l se t t0 t1 te tk ty:Nat}{es0 es1 es2 es3:Array DictEntry}{ff:FN}{aX:Array Value}{left x y:Int}{p4 pf:Pos}{w:World}
theorem HE {os:OsState}{t2 t3:Nat}(hl:0 < left) (h0:0<=x) (h1:x < 64) (hx:aX[x.toNat]?=some (.int y ty)) (h2:0<=x.fmod 4) (h3:x.fmod 4 < 64) (h4:(bM t0 t1 t2 t3)[(x.fmod 4).toNat]?=some (.ref (t0+1109))) (hA:Z es0 A) (aG:es0.size<=sizeLine):
  Qw w b1 b2 d os fun W=>⟨E2 W,8,⟨(ax (ai W 1107 1) (it+1109) (ab W l)),none,none,[(fn ff,pf),(CC,p4)],none⟩,den (ax (ai W 1107 1) (it+1109) (ab W l)),[(1108,ac aX se),(l+1109,aN [ak W aT k1 (.ref 1108),ak W bh k2 (.ref (t+1109))] e0),(t+1109,ac (bM t0 t1 t2 t3) te),(t0+1109,au es0 ep0),(t1+1109,au es1 ep1),(t2+1109,au es2 ep2),(t3+1109,au es3 ep3),(it+1109,aY x left 1)],j+1109,tk,.u (fr 7 (it+1109) x left hl)<| .u (bz 0 1108 se aX x (.int y ty) h0 h1 hx)<| .u (iy y)<| .u (bz 2 (t+1109) te (bM t0 t1 t2 t3) (x.fmod 4) (.ref (t0+1109)) h2 h3 h4)<| .u (bz 0 1108 se aX x (.int y ty) h0 h1 hx)<| .u (d8 3 (t0+1109) (au es0 ep0) es0 ep0 rfl hA.keys aG (dL _ _ _) (y.fmod 5) (.int (y.fdiv 5) 0))<| .e (.e (.again (ax (ai W 1107 1) (it+1109) (ab W l))) [(1108,(ac aX se)),(l+1109,aN [ak W aT k1 (.ref 1108),ak W bh k2 (.ref (t+1109)),ak W cG (tk+1) (.int x tk)] (e0+1)),(t+1109,(ac #[(.ref (t0+1109)),(.ref (t1+1109)),(.ref (t2+1109)),(.ref (t3+1109))] te)),(t0+1109,au (dy es0 (y.fmod 5) (.int (y.fmod 5) (tk+7)) (.int (y.fdiv 5) (tk+3))) ((cC es0 ep0 (y.fmod 5)))),(t1+1109,(au es1 ep1)),(t2+1109,(au es2 ep2)),(t3+1109,(au es3 ep3)),(it+1109,(aY (x+1) (left - 1) 1))] (j+1109) (tk+9))⟩:=bU 135 [8,0,8,1] [[2,2,2,2,1,1,1,0,1,1],[0,1],[2,2,0,0,3,3,3,0,3,1],[2,2,1,1,1,0,1,1],[0,0,4,4,0,4,1],[]] [] (by kernel_rfl)
theorem HF {os:OsState}{t2 t3:Nat}(hl:0 < left) (h0:0<=x) (h1:x < 64) (hx:aX[x.toNat]?=some (.int y ty)) (h2:0<=x.fmod 4) (h3:x.fmod 4 < 64) (h4:(bM t0 t1 t2 t3)[(x.fmod 4).toNat]?=some (.ref (t1+1109))) (hA:Z es1 A) (aG:es1.size<=sizeLine):
  Qw w b1 b2 d os fun W=>⟨E2 W,8,⟨(ax (ai W 1107 1) (it+1109) (ab W l)),none,none,[(fn ff,pf),(CC,p4)],none⟩,den (ax (ai W 1107 1) (it+1109) (ab W l)),[(1108,ac aX se),(l+1109,aN [ak W aT k1 (.ref 1108),ak W bh k2 (.ref (t+1109))] e0),(t+1109,ac (bM t0 t1 t2 t3) te),(t0+1109,au es0 ep0),(t1+1109,au es1 ep1),(t2+1109,au es2 ep2),(t3+1109,au es3 ep3),(it+1109,aY x left 1)],j+1109,tk,.u (fr 7 (it+1109) x left hl)<| .u (bz 0 1108 se aX x (.int y ty) h0 h1 hx)<| .u (iy y)<| .u (bz 2 (t+1109) te (bM t0 t1 t2 t3) (x.fmod 4) (.ref (t1+1109)) h2 h3 h4)<| .u (bz 0 1108 se aX x (.int y ty) h0 h1 hx)<| .u (d8 4 (t1+1109) (au es1 ep1) es1 ep1 rfl hA.keys aG (dL _ _ _) (y.fmod 5) (.int (y.fdiv 5) 0))<| .e (.e (.again (ax (ai W 1107 1) (it+1109) (ab W l))) [(1108,(ac aX se)),(l+1109,aN [ak W aT k1 (.ref 1108),ak W bh k2 (.ref (t+1109)),ak W cG (tk+1) (.int x tk)] (e0+1)),(t+1109,(ac #[(.ref (t0+1109)),(.ref (t1+1109)),(.ref (t2+1109)),(.ref (t3+1109))] te)),(t0+1109,(au es0 ep0)),(t1+1109,au (dy es1 (y.fmod 5) (.int (y.fmod 5) (tk+7)) (.int (y.fdiv 5) (tk+3))) ((cC es1 ep1 (y.fmod 5)))),(t2+1109,(au es2 ep2)),(t3+1109,(au es3 ep3)),(it+1109,(aY (x+1) (left - 1) 1))] (j+1109) (tk+9))⟩:=bU 135 [8,0,8,1] [[2,2,2,2,1,1,1,0,1,1],[0,1],[2,2,0,0,3,3,3,0,3,1],[2,2,1,1,1,0,1,1],[0,0,5,5,0,5,1],[]] [] (by kernel_rfl)
theorem HG {os:OsState}{t2 t3:Nat}(hl:0 < left) (h0:0<=x) (h1:x < 64) (hx:aX[x.toNat]?=some (.int y ty)) (h2:0<=x.fmod 4) (h3:x.fmod 4 < 64) (h4:(bM t0 t1 t2 t3)[(x.fmod 4).toNat]?=some (.ref (t2+1109))) (hA:Z es2 A) (aG:es2.size<=sizeLine):
  Qw w b1 b2 d os fun W=>⟨E2 W,8,⟨(ax (ai W 1107 1) (it+1109) (ab W l)),none,none,[(fn ff,pf),(CC,p4)],none⟩,den (ax (ai W 1107 1) (it+1109) (ab W l)),[(1108,ac aX se),(l+1109,aN [ak W aT k1 (.ref 1108),ak W bh k2 (.ref (t+1109))] e0),(t+1109,ac (bM t0 t1 t2 t3) te),(t0+1109,au es0 ep0),(t1+1109,au es1 ep1),(t2+1109,au es2 ep2),(t3+1109,au es3 ep3),(it+1109,aY x left 1)],j+1109,tk,.u (fr 7 (it+1109) x left hl)<| .u (bz 0 1108 se aX x (.int y ty) h0 h1 hx)<| .u (iy y)<| .u (bz 2 (t+1109) te (bM t0 t1 t2 t3) (x.fmod 4) (.ref (t2+1109)) h2 h3 h4)<| .u (bz 0 1108 se aX x (.int y ty) h0 h1 hx)<| .u (d8 5 (t2+1109) (au es2 ep2) es2 ep2 rfl hA.keys aG (dL _ _ _) (y.fmod 5) (.int (y.fdiv 5) 0))<| .e (.e (.again (ax (ai W 1107 1) (it+1109) (ab W l))) [(1108,(ac aX se)),(l+1109,aN [ak W aT k1 (.ref 1108),ak W bh k2 (.ref (t+1109)),ak W cG (tk+1) (.int x tk)] (e0+1)),(t+1109,(ac #[(.ref (t0+1109)),(.ref (t1+1109)),(.ref (t2+1109)),(.ref (t3+1109))] te)),(t0+1109,(au es0 ep0)),(t1+1109,(au es1 ep1)),(t2+1109,au (dy es2 (y.fmod 5) (.int (y.fmod 5) (tk+7)) (.int (y.fdiv 5) (tk+3))) ((cC es2 ep2 (y.fmod 5)))),(t3+1109,(au es3 ep3)),(it+1109,(aY (x+1) (left - 1) 1))] (j+1109) (tk+9))⟩:=bU 135 [8,0,8,1] [[2,2,2,2,1,1,1,0,1,1],[0,1],[2,2,0,0,3,3,3,0,3,1],[2,2,1,1,1,0,1,1],[0,0,6,6,0,6,1],[]] [] (by kernel_rfl)
theorem HH {os:OsState}{t2 t3:Nat}(hl:0 < left) (h0:0<=x) (h1:x < 64) (hx:aX[x.toNat]?=some (.int y ty)) (h2:0<=x.fmod 4) (h3:x.fmod 4 < 64) (h4:(bM t0 t1 t2 t3)[(x.fmod 4).toNat]?=some (.ref (t3+1109))) (hA:Z es3 A) (aG:es3.size<=sizeLine):
  Qw w b1 b2 d os fun W=>⟨E2 W,8,⟨(ax (ai W 1107 1) (it+1109) (ab W l)),none,none,[(fn ff,pf),(CC,p4)],none⟩,den (ax (ai W 1107 1) (it+1109) (ab W l)),[(1108,ac aX se),(l+1109,aN [ak W aT k1 (.ref 1108),ak W bh k2 (.ref (t+1109))] e0),(t+1109,ac (bM t0 t1 t2 t3) te),(t0+1109,au es0 ep0),(t1+1109,au es1 ep1),(t2+1109,au es2 ep2),(t3+1109,au es3 ep3),(it+1109,aY x left 1)],j+1109,tk,.u (fr 7 (it+1109) x left hl)<| .u (bz 0 1108 se aX x (.int y ty) h0 h1 hx)<| .u (iy y)<| .u (bz 2 (t+1109) te (bM t0 t1 t2 t3) (x.fmod 4) (.ref (t3+1109)) h2 h3 h4)<| .u (bz 0 1108 se aX x (.int y ty) h0 h1 hx)<| .u (d8 6 (t3+1109) (au es3 ep3) es3 ep3 rfl hA.keys aG (dL _ _ _) (y.fmod 5) (.int (y.fdiv 5) 0))<| .e (.e (.again (ax (ai W 1107 1) (it+1109) (ab W l))) [(1108,(ac aX se)),(l+1109,aN [ak W aT k1 (.ref 1108),ak W bh k2 (.ref (t+1109)),ak W cG (tk+1) (.int x tk)] (e0+1)),(t+1109,(ac #[(.ref (t0+1109)),(.ref (t1+1109)),(.ref (t2+1109)),(.ref (t3+1109))] te)),(t0+1109,(au es0 ep0)),(t1+1109,(au es1 ep1)),(t2+1109,(au es2 ep2)),(t3+1109,au (dy es3 (y.fmod 5) (.int (y.fmod 5) (tk+7)) (.int (y.fdiv 5) (tk+3))) ((cC es3 ep3 (y.fmod 5)))),(it+1109,(aY (x+1) (left - 1) 1))] (j+1109) (tk+9))⟩:=bU 135 [8,0,8,1] [[2,2,2,2,1,1,1,0,1,1],[0,1],[2,2,0,0,3,3,3,0,3,1],[2,2,1,1,1,0,1,1],[0,0,7,7,0,7,1],[]] [] (by kernel_rfl)
theorem HI {os:OsState}{t2 t3:Nat}{q3:Value}(hl:0 < left) (h0:0<=x) (h1:x < 64) (hx:aX[x.toNat]?=some (.int y ty)) (h2:0<=x.fmod 4) (h3:x.fmod 4 < 64) (h4:(bM t0 t1 t2 t3)[(x.fmod 4).toNat]?=some (.ref (t0+1109))) (hA:Z es0 A) (aG:es0.size<=sizeLine):
  Qw w b1 b2 d os fun W=>⟨E2 W,8,⟨(ax (ai W 1107 1) (it+1109) (ab W l)),none,none,[(fn ff,pf),(CC,p4)],none⟩,den (ax (ai W 1107 1) (it+1109) (ab W l)),[(1108,ac aX se),(l+1109,aN [ak W aT k1 (.ref 1108),ak W bh k2 (.ref (t+1109)),ak W cG k3 q3] e0),(t+1109,ac (bM t0 t1 t2 t3) te),(t0+1109,au es0 ep0),(t1+1109,au es1 ep1),(t2+1109,au es2 ep2),(t3+1109,au es3 ep3),(it+1109,aY x left 1)],j+1109,tk,.u (fr 7 (it+1109) x left hl)<| .u (bz 0 1108 se aX x (.int y ty) h0 h1 hx)<| .u (iy y)<| .u (bz 2 (t+1109) te (bM t0 t1 t2 t3) (x.fmod 4) (.ref (t0+1109)) h2 h3 h4)<| .u (bz 0 1108 se aX x (.int y ty) h0 h1 hx)<| .u (d8 3 (t0+1109) (au es0 ep0) es0 ep0 rfl hA.keys aG (dL _ _ _) (y.fmod 5) (.int (y.fdiv 5) 0))<| .e (.e (.again (ax (ai W 1107 1) (it+1109) (ab W l))) [(1108,(ac aX se)),(l+1109,aN [ak W aT k1 (.ref 1108),ak W bh k2 (.ref (t+1109)),ak W cG k3 (.int x tk)] e0),(t+1109,(ac #[(.ref (t0+1109)),(.ref (t1+1109)),(.ref (t2+1109)),(.ref (t3+1109))] te)),(t0+1109,au (dy es0 (y.fmod 5) (.int (y.fmod 5) (tk+7)) (.int (y.fdiv 5) (tk+3))) ((cC es0 ep0 (y.fmod 5)))),(t1+1109,(au es1 ep1)),(t2+1109,(au es2 ep2)),(t3+1109,(au es3 ep3)),(it+1109,(aY (x+1) (left - 1) 1))] (j+1109) (tk+9))⟩:=bU 135 [8,0,8,1] [[2,2,2,2,1,1,1,0,1,1],[0,1],[2,2,0,0,3,3,3,0,3,1],[2,2,1,1,1,0,1,1],[0,0,4,4,0,4,1],[]] [] (by kernel_rfl)
theorem HJ {os:OsState}{t2 t3:Nat}{q3:Value}(hl:0 < left) (h0:0<=x) (h1:x < 64) (hx:aX[x.toNat]?=some (.int y ty)) (h2:0<=x.fmod 4) (h3:x.fmod 4 < 64) (h4:(bM t0 t1 t2 t3)[(x.fmod 4).toNat]?=some (.ref (t1+1109))) (hA:Z es1 A) (aG:es1.size<=sizeLine):
  Qw w b1 b2 d os fun W=>⟨E2 W,8,⟨(ax (ai W 1107 1) (it+1109) (ab W l)),none,none,[(fn ff,pf),(CC,p4)],none⟩,den (ax (ai W 1107 1) (it+1109) (ab W l)),[(1108,ac aX se),(l+1109,aN [ak W aT k1 (.ref 1108),ak W bh k2 (.ref (t+1109)),ak W cG k3 q3] e0),(t+1109,ac (bM t0 t1 t2 t3) te),(t0+1109,au es0 ep0),(t1+1109,au es1 ep1),(t2+1109,au es2 ep2),(t3+1109,au es3 ep3),(it+1109,aY x left 1)],j+1109,tk,.u (fr 7 (it+1109) x left hl)<| .u (bz 0 1108 se aX x (.int y ty) h0 h1 hx)<| .u (iy y)<| .u (bz 2 (t+1109) te (bM t0 t1 t2 t3) (x.fmod 4) (.ref (t1+1109)) h2 h3 h4)<| .u (bz 0 1108 se aX x (.int y ty) h0 h1 hx)<| .u (d8 4 (t1+1109) (au es1 ep1) es1 ep1 rfl hA.keys aG (dL _ _ _) (y.fmod 5) (.int (y.fdiv 5) 0))<| .e (.e (.again (ax (ai W 1107 1) (it+1109) (ab W l))) [(1108,(ac aX se)),(l+1109,aN [ak W aT k1 (.ref 1108),ak W bh k2 (.ref (t+1109)),ak W cG k3 (.int x tk)] e0),(t+1109,(ac #[(.ref (t0+1109)),(.ref (t1+1109)),(.ref (t2+1109)),(.ref (t3+1109))] te)),(t0+1109,(au es0 ep0)),(t1+1109,au (dy es1 (y.fmod 5) (.int (y.fmod 5) (tk+7)) (.int (y.fdiv 5) (tk+3))) ((cC es1 ep1 (y.fmod 5)))),(t2+1109,(au es2 ep2)),(t3+1109,(au es3 ep3)),(it+1109,(aY (x+1) (left - 1) 1))] (j+1109) (tk+9))⟩:=bU 135 [8,0,8,1] [[2,2,2,2,1,1,1,0,1,1],[0,1],[2,2,0,0,3,3,3,0,3,1],[2,2,1,1,1,0,1,1],[0,0,5,5,0,5,1],[]] [] (by kernel_rfl)
theorem HK {os:OsState}{t2 t3:Nat}{q3:Value}(hl:0 < left) (h0:0<=x) (h1:x < 64) (hx:aX[x.toNat]?=some (.int y ty)) (h2:0<=x.fmod 4) (h3:x.fmod 4 < 64) (h4:(bM t0 t1 t2 t3)[(x.fmod 4).toNat]?=some (.ref (t2+1109))) (hA:Z es2 A) (aG:es2.size<=sizeLine):
  Qw w b1 b2 d os fun W=>⟨E2 W,8,⟨(ax (ai W 1107 1) (it+1109) (ab W l)),none,none,[(fn ff,pf),(CC,p4)],none⟩,den (ax (ai W 1107 1) (it+1109) (ab W l)),[(1108,ac aX se),(l+1109,aN [ak W aT k1 (.ref 1108),ak W bh k2 (.ref (t+1109)),ak W cG k3 q3] e0),(t+1109,ac (bM t0 t1 t2 t3) te),(t0+1109,au es0 ep0),(t1+1109,au es1 ep1),(t2+1109,au es2 ep2),(t3+1109,au es3 ep3),(it+1109,aY x left 1)],j+1109,tk,.u (fr 7 (it+1109) x left hl)<| .u (bz 0 1108 se aX x (.int y ty) h0 h1 hx)<| .u (iy y)<| .u (bz 2 (t+1109) te (bM t0 t1 t2 t3) (x.fmod 4) (.ref (t2+1109)) h2 h3 h4)<| .u (bz 0 1108 se aX x (.int y ty) h0 h1 hx)<| .u (d8 5 (t2+1109) (au es2 ep2) es2 ep2 rfl hA.keys aG (dL _ _ _) (y.fmod 5) (.int (y.fdiv 5) 0))<| .e (.e (.again (ax (ai W 1107 1) (it+1109) (ab W l))) [(1108,(ac aX se)),(l+1109,aN [ak W aT k1 (.ref 1108),ak W bh k2 (.ref (t+1109)),ak W cG k3 (.int x tk)] e0),(t+1109,(ac #[(.ref (t0+1109)),(.ref (t1+1109)),(.ref (t2+1109)),(.ref (t3+1109))] te)),(t0+1109,(au es0 ep0)),(t1+1109,(au es1 ep1)),(t2+1109,au (dy es2 (y.fmod 5) (.int (y.fmod 5) (tk+7)) (.int (y.fdiv 5) (tk+3))) ((cC es2 ep2 (y.fmod 5)))),(t3+1109,(au es3 ep3)),(it+1109,(aY (x+1) (left - 1) 1))] (j+1109) (tk+9))⟩:=bU 135 [8,0,8,1] [[2,2,2,2,1,1,1,0,1,1],[0,1],[2,2,0,0,3,3,3,0,3,1],[2,2,1,1,1,0,1,1],[0,0,6,6,0,6,1],[]] [] (by kernel_rfl)
theorem HL {os:OsState}{t2 t3:Nat}{q3:Value}(hl:0 < left) (h0:0<=x) (h1:x < 64) (hx:aX[x.toNat]?=some (.int y ty)) (h2:0<=x.fmod 4) (h3:x.fmod 4 < 64) (h4:(bM t0 t1 t2 t3)[(x.fmod 4).toNat]?=some (.ref (t3+1109))) (hA:Z es3 A) (aG:es3.size<=sizeLine):
  Qw w b1 b2 d os fun W=>⟨E2 W,8,⟨(ax (ai W 1107 1) (it+1109) (ab W l)),none,none,[(fn ff,pf),(CC,p4)],none⟩,den (ax (ai W 1107 1) (it+1109) (ab W l)),[(1108,ac aX se),(l+1109,aN [ak W aT k1 (.ref 1108),ak W bh k2 (.ref (t+1109)),ak W cG k3 q3] e0),(t+1109,ac (bM t0 t1 t2 t3) te),(t0+1109,au es0 ep0),(t1+1109,au es1 ep1),(t2+1109,au es2 ep2),(t3+1109,au es3 ep3),(it+1109,aY x left 1)],j+1109,tk,.u (fr 7 (it+1109) x left hl)<| .u (bz 0 1108 se aX x (.int y ty) h0 h1 hx)<| .u (iy y)<| .u (bz 2 (t+1109) te (bM t0 t1 t2 t3) (x.fmod 4) (.ref (t3+1109)) h2 h3 h4)<| .u (bz 0 1108 se aX x (.int y ty) h0 h1 hx)<| .u (d8 6 (t3+1109) (au es3 ep3) es3 ep3 rfl hA.keys aG (dL _ _ _) (y.fmod 5) (.int (y.fdiv 5) 0))<| .e (.e (.again (ax (ai W 1107 1) (it+1109) (ab W l))) [(1108,(ac aX se)),(l+1109,aN [ak W aT k1 (.ref 1108),ak W bh k2 (.ref (t+1109)),ak W cG k3 (.int x tk)] e0),(t+1109,(ac #[(.ref (t0+1109)),(.ref (t1+1109)),(.ref (t2+1109)),(.ref (t3+1109))] te)),(t0+1109,(au es0 ep0)),(t1+1109,(au es1 ep1)),(t2+1109,(au es2 ep2)),(t3+1109,au (dy es3 (y.fmod 5) (.int (y.fmod 5) (tk+7)) (.int (y.fdiv 5) (tk+3))) ((cC es3 ep3 (y.fmod 5)))),(it+1109,(aY (x+1) (left - 1) 1))] (j+1109) (tk+9))⟩:=bU 135 [8,0,8,1] [[2,2,2,2,1,1,1,0,1,1],[0,1],[2,2,0,0,3,3,3,0,3,1],[2,2,1,1,1,0,1,1],[0,0,7,7,0,7,1],[]] [] (by kernel_rfl)
theorem JQ {os:OsState}(hl:left<=0):
  Qw w b1 b2 d os fun W=>⟨E2 W,1,⟨(ax (ai W 1107 1) (it+1109) (ab W l)),none,none,[(fn ff,pf),(CC,p4)],none⟩,den (ax (ai W 1107 1) (it+1109) (ab W l)),[(it+1109,aY x left 1)],j+1109,tk,.u (lW 0 (it+1109) x left hl)<| .e (.e (.done .next) [(it+1109,(aY x left 1))] (j+1111) tk)⟩:=bU 69 [1,0,1,1] [[3,0]] [] (by kernel_rfl)
end
structure cK where
 a:KV
 b:KV
 c:KV
 d:KV
noncomputable def cK.put (T:cK) (r:Nat) (k v:Int):cK:=match r with
 | 0=>{T with a:=bw T.a k v}
 | 1=>{T with b:=bw T.b k v}
 | 2=>{T with c:=bw T.c k v}
 | _=>{T with d:=bw T.d k v}
noncomputable def b4:List (Int×Tok)->Nat->cK->cK
 | [],_,T=>T
 | y::r,i,T=>b4 r (i+1) (T.put (i % 4) (y.1.fmod 5) (y.1.fdiv 5))
section
variable {d:Drawn}{os:OsState}{w:World}{b1 b2:Bool}{s l t t0 t1 t2 t3 it se te:Nat}{ff:FN}{pf p4:Pos}{h₀:Heap}{Y:Nat}{R:Result->Shared->Prop}
inductive Ez (w:World) (s t:Nat):Obj->Prop
 | f {k1 k2 e0:Nat}:Ez w s t (aN [ak w aT k1 (.ref 1108),ak w bh k2 (.ref (t+1109))] e0)
 | l {k1 k2 k3:Nat}{q3:Value}{e0:Nat}:Ez w s t (aN [ak w aT k1 (.ref 1108),ak w bh k2 (.ref (t+1109)),ak w cG k3 q3] e0)
noncomputable abbrev EA (s l t t0 t1 t2 t3 it se te:Nat) (aX:Array Value) (ns:Obj) (es0 es1 es2 es3:Array DictEntry) (ep0 ep1 ep2 ep3:Nat) (ito:Obj):Mm:=[(1108,ac aX se),(l+1109,ns),(t+1109,ac (bM t0 t1 t2 t3) te),(t0+1109,au es0 ep0),(t1+1109,au es1 ep1),(t2+1109,au es2 ep2),(t3+1109,au es3 ep3),(it+1109,ito)]
noncomputable abbrev JR (w:World) (it l:Nat):Code:=ax (ai w 1107 1) (it+1109) (ab w l)
theorem Bt {ls:List (Int×Tok)}(eH:ls.length<=63) (hk:Y<=8):∀ (ay:List (Int×Tok)) (i:Nat),ls.drop i=ay->∀ (T:cK) (es0 es1 es2 es3:Array DictEntry) (ep0 ep1 ep2 ep3:Nat) (ns:Obj) (j tk:Nat) (h:Heap) (g:Array GenState) (p:Pos),
  Z es0 T.a->Z es1 T.b->Z es2 T.c->Z es3 T.d->(T.a.length<=3+i/\T.b.length<=3+i/\T.c.length<=3+i/\T.d.length<=3+i)->Ez (W2 w b1 b2) s t ns->AllBare g->ag (Ae w b1 b2) h₀ Y (EA s l t t0 t1 t2 t3 it se te (ls.map cU).toArray ns es0 es1 es2 es3 ep0 ep1 ep2 ep3 (aY (i:Int) ((ls.length:Int) - i) 1)) (j+1109) h->
  (∀ es0 es1 es2 es3 ep0 ep1 ep2 ep3 ns ito j tk h g,Z es0 (b4 ay i T).a->Z es1 (b4 ay i T).b->Z es2 (b4 ay i T).c->Z es3 (b4 ay i T).d->Ez (W2 w b1 b2) s t ns->AllBare g->ag (Ae w b1 b2) h₀ Y (EA s l t t0 t1 t2 t3 it se te (ls.map cU).toArray ns es0 es1 es2 es3 ep0 ep1 ep2 ep3 ito) (j+1109) h->R (.ok .next) ⟨h,g,d,tk,os⟩)->
  wpCode (Bf w b1 b2) ⟨JR (W2 w b1 b2) it l,none,none,[(fn ff,pf),(CC,p4)],none⟩ R p ⟨h,g,d,tk,os⟩:=by
 intro ay
 induction ay with
 | nil=>
  intro i hi T es0 es1 es2 es3 ep0 ep1 ep2 ep3 ns j tk h g p ha hb hc hd hs aq hg al fin
  have hx:(ls.length:Int) - i<=0:=by
   have:=congrArg List.length hi
   simp at this;lia
  refine aD (E:=E2 (W2 w b1 b2)) hg al ?_
  refine am.sub [7] rfl (by decide) rfl fun h1 aj=>?_
  refine JQ hx p (Nat.le_refl _) fun p2 h2 g2 ao aa=>?_
  exact fin _ _ _ _ _ _ _ _ _ _ (j+2) _ h2 g2 ha hb hc hd aq ao (aj.join' [7] (by decide) rfl aa rfl)
 | cons y ay ih=>
  intro i hi T es0 es1 es2 es3 ep0 ep1 ep2 ep3 ns j tk h g p ha hb hc hd hs aq hg al fin
  have rd:i < ls.length:=by
   have:=congrArg List.length hi
   simp at this;lia
  have hl:0 < (ls.length:Int) - i:=by lia
  have hx:(ls.map cU).toArray[((i:Nat):Int).toNat]?=some (.int y.1 y.2):=by
   have:=congrArg (fun l=>l[0]?) hi
   simp at this
   simp [this,cU]
  have bv:ls.drop (i+1)=ay:=by
   have:=congrArg List.tail hi
   simpa using this
  have e1:((i:Nat):Int)+1=((i+1:Nat):Int):=by lia
  have e2:(ls.length:Int) - (i:Nat) - 1=(ls.length:Int) - ((i+1:Nat):Int):=by lia
  have hm:((i:Nat):Int).fmod 4=((i % 4:Nat):Int):=by
   rw [Int.fmod_eq_emod_of_nonneg _ (by decide)];lia
  have hr:i % 4=0∨i % 4=1∨i % 4=2∨i % 4=3:=by lia
  refine aD (E:=E2 (W2 w b1 b2)) hg al ?_
  obtain ⟨sa,sb,sc,sd⟩:=hs
  have za:es0.size<=sizeLine:=dz (by rw [ha.size];lia)
  have zb:es1.size<=sizeLine:=dz (by rw [hb.size];lia)
  have zc:es2.size<=sizeLine:=dz (by rw [hc.size];lia)
  have zd:es3.size<=sizeLine:=dz (by rw [hd.size];lia)
  have la:=dP T.a (y.1.fmod 5) (y.1.fdiv 5)
  have lb:=dP T.b (y.1.fmod 5) (y.1.fdiv 5)
  have lc:=dP T.c (y.1.fmod 5) (y.1.fdiv 5)
  have ld:=dP T.d (y.1.fmod 5) (y.1.fdiv 5)
  rcases hr with hr | hr | hr | hr
  ·have h4:(bM t0 t1 t2 t3)[(((i:Nat):Int).fmod 4).toNat]?=some (.ref (t0+1109)):=by rw [hm,hr];rfl
   have eT:b4 (y::ay) i T=b4 ay (i+1) (T.put 0 (y.1.fmod 5) (y.1.fdiv 5)):=by show b4 ay (i+1) (T.put (i % 4) _ _)=_;rw [hr]
   rw [eT] at fin
   induction aq with | @f k1 k2 e0=>?_ | @l k1 k2 k3 q3 e0=>?_
   ·refine HE hl (by lia) (by lia) hx (by rw [hm];lia) (by rw [hm];lia) h4 ha za p hk fun p2 h2 g2 ao aa=>?_
    rw [e1,e2] at aa
    exact ih (i+1) bv (T.put 0 (y.1.fmod 5) (y.1.fdiv 5)) _ _ _ _ _ _ _ _ _ j _ h2 g2 p2 (ha.put _ _ _ _) hb hc hd ⟨(by show _<=_;simp only [cK.put];lia),(by show _<=_;simp only [cK.put];lia),(by show _<=_;simp only [cK.put];lia),(by show _<=_;simp only [cK.put];lia)⟩ .l ao aa fin
   ·refine HI hl (by lia) (by lia) hx (by rw [hm];lia) (by rw [hm];lia) h4 ha za p hk fun p2 h2 g2 ao aa=>?_
    rw [e1,e2] at aa
    exact ih (i+1) bv (T.put 0 (y.1.fmod 5) (y.1.fdiv 5)) _ _ _ _ _ _ _ _ _ j _ h2 g2 p2 (ha.put _ _ _ _) hb hc hd ⟨(by show _<=_;simp only [cK.put];lia),(by show _<=_;simp only [cK.put];lia),(by show _<=_;simp only [cK.put];lia),(by show _<=_;simp only [cK.put];lia)⟩ .l ao aa fin
  ·have h4:(bM t0 t1 t2 t3)[(((i:Nat):Int).fmod 4).toNat]?=some (.ref (t1+1109)):=by rw [hm,hr];rfl
   have eT:b4 (y::ay) i T=b4 ay (i+1) (T.put 1 (y.1.fmod 5) (y.1.fdiv 5)):=by show b4 ay (i+1) (T.put (i % 4) _ _)=_;rw [hr]
   rw [eT] at fin
   induction aq with | @f k1 k2 e0=>?_ | @l k1 k2 k3 q3 e0=>?_
   ·refine HF hl (by lia) (by lia) hx (by rw [hm];lia) (by rw [hm];lia) h4 hb zb p hk fun p2 h2 g2 ao aa=>?_
    rw [e1,e2] at aa
    exact ih (i+1) bv (T.put 1 (y.1.fmod 5) (y.1.fdiv 5)) _ _ _ _ _ _ _ _ _ j _ h2 g2 p2 ha (hb.put _ _ _ _) hc hd ⟨(by show _<=_;simp only [cK.put];lia),(by show _<=_;simp only [cK.put];lia),(by show _<=_;simp only [cK.put];lia),(by show _<=_;simp only [cK.put];lia)⟩ .l ao aa fin
   ·refine HJ hl (by lia) (by lia) hx (by rw [hm];lia) (by rw [hm];lia) h4 hb zb p hk fun p2 h2 g2 ao aa=>?_
    rw [e1,e2] at aa
    exact ih (i+1) bv (T.put 1 (y.1.fmod 5) (y.1.fdiv 5)) _ _ _ _ _ _ _ _ _ j _ h2 g2 p2 ha (hb.put _ _ _ _) hc hd ⟨(by show _<=_;simp only [cK.put];lia),(by show _<=_;simp only [cK.put];lia),(by show _<=_;simp only [cK.put];lia),(by show _<=_;simp only [cK.put];lia)⟩ .l ao aa fin
  ·have h4:(bM t0 t1 t2 t3)[(((i:Nat):Int).fmod 4).toNat]?=some (.ref (t2+1109)):=by rw [hm,hr];rfl
   have eT:b4 (y::ay) i T=b4 ay (i+1) (T.put 2 (y.1.fmod 5) (y.1.fdiv 5)):=by show b4 ay (i+1) (T.put (i % 4) _ _)=_;rw [hr]
   rw [eT] at fin
   induction aq with | @f k1 k2 e0=>?_ | @l k1 k2 k3 q3 e0=>?_
   ·refine HG hl (by lia) (by lia) hx (by rw [hm];lia) (by rw [hm];lia) h4 hc zc p hk fun p2 h2 g2 ao aa=>?_
    rw [e1,e2] at aa
    exact ih (i+1) bv (T.put 2 (y.1.fmod 5) (y.1.fdiv 5)) _ _ _ _ _ _ _ _ _ j _ h2 g2 p2 ha hb (hc.put _ _ _ _) hd ⟨(by show _<=_;simp only [cK.put];lia),(by show _<=_;simp only [cK.put];lia),(by show _<=_;simp only [cK.put];lia),(by show _<=_;simp only [cK.put];lia)⟩ .l ao aa fin
   ·refine HK hl (by lia) (by lia) hx (by rw [hm];lia) (by rw [hm];lia) h4 hc zc p hk fun p2 h2 g2 ao aa=>?_
    rw [e1,e2] at aa
    exact ih (i+1) bv (T.put 2 (y.1.fmod 5) (y.1.fdiv 5)) _ _ _ _ _ _ _ _ _ j _ h2 g2 p2 ha hb (hc.put _ _ _ _) hd ⟨(by show _<=_;simp only [cK.put];lia),(by show _<=_;simp only [cK.put];lia),(by show _<=_;simp only [cK.put];lia),(by show _<=_;simp only [cK.put];lia)⟩ .l ao aa fin
  ·have h4:(bM t0 t1 t2 t3)[(((i:Nat):Int).fmod 4).toNat]?=some (.ref (t3+1109)):=by rw [hm,hr];rfl
   have eT:b4 (y::ay) i T=b4 ay (i+1) (T.put 3 (y.1.fmod 5) (y.1.fdiv 5)):=by show b4 ay (i+1) (T.put (i % 4) _ _)=_;rw [hr]
   rw [eT] at fin
   induction aq with | @f k1 k2 e0=>?_ | @l k1 k2 k3 q3 e0=>?_
   ·refine HH hl (by lia) (by lia) hx (by rw [hm];lia) (by rw [hm];lia) h4 hd zd p hk fun p2 h2 g2 ao aa=>?_
    rw [e1,e2] at aa
    exact ih (i+1) bv (T.put 3 (y.1.fmod 5) (y.1.fdiv 5)) _ _ _ _ _ _ _ _ _ j _ h2 g2 p2 ha hb hc (hd.put _ _ _ _) ⟨(by show _<=_;simp only [cK.put];lia),(by show _<=_;simp only [cK.put];lia),(by show _<=_;simp only [cK.put];lia),(by show _<=_;simp only [cK.put];lia)⟩ .l ao aa fin
   ·refine HL hl (by lia) (by lia) hx (by rw [hm];lia) (by rw [hm];lia) h4 hd zd p hk fun p2 h2 g2 ao aa=>?_
    rw [e1,e2] at aa
    exact ih (i+1) bv (T.put 3 (y.1.fmod 5) (y.1.fdiv 5)) _ _ _ _ _ _ _ _ _ j _ h2 g2 p2 ha hb hc (hd.put _ _ _ _) ⟨(by show _<=_;simp only [cK.put];lia),(by show _<=_;simp only [cK.put];lia),(by show _<=_;simp only [cK.put];lia),(by show _<=_;simp only [cK.put];lia)⟩ .l ao aa fin
end
noncomputable def BV (w:World) (pl:Bool) (k:Nat) (q:Value) (r:List DictEntry):List DictEntry:=@Bool.rec (fun _=>List DictEntry) r (ak w cG k q::r) pl
noncomputable def zW (W:World) (f:Nat->Nat) (tl:List (Str×Value)):Nat->List DictEntry:=@List.rec (Str×Value) (fun _=>Nat->List DictEntry) (fun _=>[]) (fun x _ ih i=>ak W x.1 (f i) x.2::ih (Nat.succ i)) tl
noncomputable def bB (W:World) (pl:Bool) (t me un:Nat) (f:Nat->Nat) (q3:Value) (tl:List (Str×Value)) (e0:Nat):Obj:=aN (ak W aT (f 0) (.ref 1108)::ak W bh (f 1) (.ref (t+1109))::BV W pl (f 2) q3 (ak W yX (f 3) (.ref (me+1109))::ak W uZ (f 4) (.ref (un+1109))::zW W f tl 5)) e0
noncomputable def uf (f:Nat->Nat) (i x:Nat):Nat->Nat:=fun j=>@Bool.rec (fun _=>Nat) (f j) x (Nat.beq j i)
noncomputable def MQ (l:List Nat):Nat->Nat:=@List.rec Nat (fun _=>Nat->Nat) (fun _=>0) (fun x _ ih i=>@Nat.rec (fun _=>Nat) x (fun m _=>ih m) i) l
inductive LN (W:World) (pl:Bool) (t me un:Nat) (tl:List (Str×Value)):Obj->Prop
 | i {f:Nat->Nat}{q3:Value}{e0:Nat}:LN W pl t me un tl (bB W pl t me un f q3 tl e0)
noncomputable abbrev t2 (m u:Value):List (Str×Value):=[(fK,m),(eD,u)]
noncomputable abbrev t3 (m u c:Value):List (Str×Value):=[(fK,m),(eD,u),(el,c)]
noncomputable abbrev t4 (m u c b:Value):List (Str×Value):=[(fK,m),(eD,u),(el,c),(dK,b)]
noncomputable abbrev t5 (m u c b o:Value):List (Str×Value):=[(fK,m),(eD,u),(el,c),(dK,b),(fO,o)]
noncomputable abbrev t7 (m u c b o lo hi:Value):List (Str×Value):=[(fK,m),(eD,u),(el,c),(dK,b),(fO,o),(l9,lo),(jF,hi)]
noncomputable abbrev t8 (m u c b o lo hi tb:Value):List (Str×Value):=[(fK,m),(eD,u),(el,c),(dK,b),(fO,o),(l9,lo),(jF,hi),(cH,tb)]
noncomputable abbrev t9 (m u c b o lo hi tb ky:Value):List (Str×Value):=[(fK,m),(eD,u),(el,c),(dK,b),(fO,o),(l9,lo),(jF,hi),(cH,tb),(rK,ky)]
noncomputable abbrev EB (m u c b o lo hi tb ky pp:Value):List (Str×Value):=[(fK,m),(eD,u),(el,c),(dK,b),(fO,o),(l9,lo),(jF,hi),(cH,tb),(rK,ky),(qj,pp)]
noncomputable abbrev kV (m u c b o lo hi tb ky pp x y z:Value):List (Str×Value):=[(fK,m),(eD,u),(el,c),(dK,b),(fO,o),(l9,lo),(jF,hi),(cH,tb),(rK,ky),(qj,pp),(GY,x),(br,y),(GZ,z)]
section
variable {W:World}{pl:Bool}{t me un:Nat}{ns:Obj}{tl:List (Str×Value)}
noncomputable def MR (W:World) (pl:Bool) (t me un:Nat) (tl:List (Str×Value)):Obj:=bB W pl t me un (fun _=>0) .none tl 0
theorem oh (tl:List (Str×Value)):LN W pl t me un tl (MR W pl t me un tl):=.i
end
noncomputable def ca (w:World) (a b:Nat):List Stmt:=((dQ (eW w 1107)).drop a).take b
noncomputable def eK (w:World) (l:Nat) (p4:Pos):Ctx:=⟨fn (dQ (eW w 1107),ab w l),none,none,[(CC,p4)],none⟩
noncomputable def TI:cK:=⟨[(0,3),(1,-1),(5,2)],[(0,2),(5,4)],[(5,1)],[(5,3)]⟩
structure gH (T:cK) where
 es0:Array DictEntry
 es1:Array DictEntry
 es2:Array DictEntry
 es3:Array DictEntry
 h0:Z es0 T.a
 h1:Z es1 T.b
 h2:Z es2 T.c
 h3:Z es3 T.d
 ep0:Nat
 ep1:Nat
 ep2:Nat
 ep3:Nat
 pl:Bool
 k1:Nat
 k2:Nat
 k3:Nat
 q3:Value
 e0:Nat
 ito:Obj
 j:Nat
 tk:Nat
section
variable {d:Drawn}{os:OsState}{w:World}{b1 b2:Bool}
noncomputable def MS (s l t t0 t1 t2 t3 it se te:Nat) (ls:List (Int×Tok)) (eH:ls.length<=63) (k1 k2 e0 ep0 ep1 ep2 ep3:Nat) (es0 es1 es2 es3:Array DictEntry) (h0:Z es0 TI.a) (h1:Z es1 TI.b) (h2:Z es2 TI.c) (h3:Z es3 TI.d) (is:List Nat) (nd:is.Nodup) (hl:8=is.length):aL (E2 (W2 w b1 b2)) d os:=
 aL.sub (gH (b4 ls 0 TI)) ⟨_,_,_,_,bX _,bX _,bX _,bX _,0,0,0,0,false,0,0,0,.none,0,av,0,0⟩ (JR (W2 w b1 b2) it l) [1] is
  (EA s l t t0 t1 t2 t3 it se te (ls.map cU).toArray (aN [ak (W2 w b1 b2) aT k1 (.ref 1108),ak (W2 w b1 b2) bh k2 (.ref (t+1109))] e0) es0 es1 es2 es3 ep0 ep1 ep2 ep3 (aY 0 (Int.ofNat (ls.map cU).toArray.size) 1))
  nd hl (fun _=>.next) (fun x=>EA s l t t0 t1 t2 t3 it se te (ls.map cU).toArray (aN (ak (W2 w b1 b2) aT x.k1 (.ref 1108)::ak (W2 w b1 b2) bh x.k2 (.ref (t+1109))::BV (W2 w b1 b2) x.pl x.k3 x.q3 []) x.e0) x.es0 x.es1 x.es2 x.es3 x.ep0 x.ep1 x.ep2 x.ep3 x.ito) (fun x=>x.j+1109) (fun x=>x.tk) (fun _=>True) (fun x=>by rw [<- hl];rfl) (by
   intro Γ h g p n tk Q aV hc hg hr k
   refine sO aV hc fun f0 p0 p4=>?_
   obtain ⟨j,rfl⟩:=dn (i:=1) hr rfl
   have ez:Int.ofNat (ls.map cU).toArray.size=(ls.length:Int) - ((0:Nat):Int):=by simp
   rw [ez] at hr
   exact Bt eH (hl▸Nat.le_refl _) ls 0 rfl TI es0 es1 es2 es3 ep0 ep1 ep2 ep3 _ j tk h g p h0 h1 h2 h3 (by decide) .f hg hr fun es0 es1 es2 es3 ep0 ep1 ep2 ep3 ns ito j tk h g a0 a1 a2 a3 aq hg al=>by
    induction aq with | @f k1 k2 e0=>?_ | @l k1 k2 k3 q3 e0=>?_
    ·exact k ⟨es0,es1,es2,es3,a0,a1,a2,a3,ep0,ep1,ep2,ep3,false,k1,k2,0,.none,e0,ito,j,tk⟩ trivial h g hg al
    ·exact k ⟨es0,es1,es2,es3,a0,a1,a2,a3,ep0,ep1,ep2,ep3,true,k1,k2,k3,q3,e0,ito,j,tk⟩ trivial h g hg al)
end
noncomputable abbrev Ax:=fun a b c d=>ab (W2 a b c) d
noncomputable abbrev By:=fun a b c d e=>eK (W2 a b c) d e
theorem JS {d:Drawn}{os:OsState}{w:World}{b1 b2:Bool}{j tk:Nat}{s l se k1 e0:Nat}(ls:List (Int×Tok)) {p4:Pos}(eH:ls.length<=63):
  Qb b1 b2 d os fun b1 b2=>⟨Ae w b1 b2,2,(By w b1 b2 l p4),c9 (ca (W2 w b1 b2) 0 2) (Ax w b1 b2 l),[(1108,ac (ls.map cU).toArray se),(l+1109,aN [ak (W2 w b1 b2) aT k1 (.ref 1108)] e0)],j+1109,tk,.u (HD 0 1108 se (ls.map cU).toArray (by simpa using eH))<| .u (vF 7 (j+1114) (Int.ofNat (ls.map cU).toArray.size) (tk+25) (tk+24) (tk+26) (Int.natCast_nonneg _) (by simp;lia))<| .c (MS s l (j+4) j (j+1) (j+2) (j+3) (j+6) se 0 ls eH k1 (tk+22) (e0+1) 3 2 1 1 #[⟨0,.int 0 tk,.int 3 (tk+1)⟩,⟨1,.int 1 (tk+2),.int (-1) (tk+4)⟩,⟨5,.int 5 (tk+5),.int 2 (tk+6)⟩] #[⟨0,.int 0 (tk+10),.int 2 (tk+11)⟩,⟨5,.int 5 (tk+12),.int 4 (tk+13)⟩] #[⟨5,.int 5 (tk+16),.int 1 (tk+17)⟩] #[⟨5,.int 5 (tk+19),.int 3 (tk+20)⟩] rfl rfl rfl rfl [0,1,6,2,3,4,5,8] (by decide) rfl) fun x3=>.e (.e (.done .next) [(1108,⟨(.type "list"),none,.seq ((List.map cU ls).toArray) se,#[]⟩),(l+1109,⟨(.type "frame"),none,.dict (([ak (W2 w b1 b2) aT (x3.k1) (.ref 1108),ak (W2 w b1 b2) bh (x3.k2) (.ref (j+1113))]++(BV (W2 w b1 b2) (gH.pl x3) (x3.k3) (gH.q3 x3) []))).toArray (x3.e0),#[]⟩),(j+1109,au (gH.es0 x3) (x3.ep0)),(j+1110,au (gH.es1 x3) (x3.ep1)),(j+1111,au (gH.es2 x3) (x3.ep2)),(j+1112,au (gH.es3 x3) (x3.ep3)),(j+1113,⟨(.type "list"),none,.seq #[(Aa j),(.ref (j+1110)),(.ref (j+1111)),(.ref (j+1112))] 0,#[]⟩)] ((x3.j)+1109) ((x3.21)))⟩:=bU 219 (Hx 0x110200002266660055550044440044440033330033330033330000) [(Hx 0x1180888080880000),[9,1],[]] [2,3,4,5,6] (by kernel_rfl)
section
variable {E:En}{d:Drawn}{os:OsState}
noncomputable def aL.subN (N:Nat) (X:Type) (x0:X) (code:Code) (ks is:List Nat) (ck:Mm) (nd:is.Nodup) (hl:aE ck=is.length) (f:X->Flow) (m':X->Mm) (n' aF:X->Nat) (says:X->Prop)
  (same:∀ x,((m' x).take is.length).map (·.1)=ck.map (·.1))
  (H:∀ (Γ:Ctx) (h:Heap) (g:Array GenState) (p:Pos) (tk:Nat) (Q:Result->Shared->Prop),Γ.code=code->eb Γ=(none,none,none,ks,some CC)->E.G g->ag E h is.length ck N h->
   (∀ x,says x->∀ h' g',E.G g'->ag E h is.length (m' x) (n' x) h'->Q (.ok (f x)) ⟨h',g',d,aF x,os⟩)->wpCode (Mo E) Γ Q p ⟨h,g,d,tk,os⟩):aL E d os where
 X:=X
 x0:=x0
 L:=_
 look q:=(q.code,is.map (ad q.m),eb q.Γ,q.n)
 v:=(code,ck.map some,(none,none,none,ks,some CC),N)
 ans x q:=⟨.pure (.done (f x)),q.p,cW q.m is (m' x),n' x,aF x,[]⟩
 says:=says
 holds:=by
  intro h₀ Y hs q Q h g e hc hg hr kk
  obtain ⟨e1,e⟩:=Prod.ext_iff.mp e
  obtain ⟨e2,e⟩:=Prod.ext_iff.mp e
  obtain ⟨e3,e4⟩:=Prod.ext_iff.mp e
  dsimp only at e1 e2 e3 e4
  have es:=eA e2
  have fA:aE (sel q.m is)=is.length:=by rw [es];exact hl
  have dD:=hr.sub is (an fA) nd
  rw [es,e4] at dD
  refine H q.Γ h g q.p q.tk Q (hc.trans e1) e3 hg dD fun x sx h' g' bQ aJ=>?_
  exact kk x sx h' g' bQ (hr.join' is nd fA aJ (by rw [es];exact same x))
end
structure cb (F:KV) where
 es:Array DictEntry
 ep:Nat
 hT:Z es F
 j:Nat
 tk:Nat
noncomputable def cb.df (F:KV):cb F:=⟨_,0,bX F,0,0⟩
section
variable {d:Drawn}{os:OsState}{w:World}{b1 b2:Bool}
noncomputable def tL (j0 t ep:Nat) (es:Array DictEntry) {F:KV}(hF:Z es F) (h8:F.length<=8) (i:Nat):aL (E2 (W2 w b1 b2)) d os:=
 aL.subN (j0+1109) (cb (cj [] F)) (cb.df _) (.call (.ref 1093) ⟨[.ref (t+1109)],[]⟩) [3,1] [i] [(t+1109,au es ep)] (by simp) rfl (fun _=>.ret (.ref (j0+1110))) (fun x=>[(t+1109,au es ep),(j0+1109,av),(j0+1110,ah (j0+1109) x.es x.ep)]) (fun x=>x.j+1109) (fun x=>x.tk) (fun _=>True) (fun _=>rfl) (by
  intro Γ h g p tk Q aV hc hg hr k
  refine I2 aV hc fun f1 f2 p1 p2 p3=>?_
  refine aD (E:=E2 (W2 w b1 b2)) hg hr ?_
  exact Et hF h8 p (Nat.le_refl _) fun x rV p' h' g' bQ aJ=>k ⟨_,_,rV,_,_⟩ trivial h' g' bQ aJ)
noncomputable def F8 (a b da db rp fp:Nat) (rs fs:Array DictEntry) {r F:KV}(hr:Z rs r) (hF:Z fs F) (hz:r.length+F.length<=sizeLine) (b9:∀ x∈F.foldl bS r,x.2>0) (bD:F.foldl bS r≠[]) (is:List Nat) (nd:is.Nodup) (hl:4=is.length):aL (E2 (W2 w b1 b2)) d os:=
 aL.sub (cb (F.foldl bS r)) (cb.df _) (.call (.ref 1083) ⟨[.ref (a+1109),.ref (b+1109)],[]⟩) [2,2,1] is [(da+1109,av),(a+1109,ah (da+1109) rs rp),(db+1109,av),(b+1109,ah (db+1109) fs fp)] nd hl (fun _=>.ret (.ref (a+1109))) (fun x=>[(da+1109,av),(a+1109,ah (da+1109) x.es x.ep),(db+1109,av),(b+1109,ah (db+1109) fs fp)]) (fun x=>x.j+1109) (fun x=>x.tk) (fun _=>True) (fun x=>by rw [<- hl];rfl) (by
  intro Γ h g p n tk Q aV hc hg aJ k
  refine lR aV hc fun f1 f2 f3 p1 p2 p3 p4=>?_
  obtain ⟨j,rfl⟩:=dn (i:=0) aJ rfl
  refine aD (E:=E2 (W2 w b1 b2)) hg aJ ?_
  exact Ea hr hF hz b9 bD p (hl▸Nat.le_refl _) fun x _ y _ p' h' g' bQ aJ=>k ⟨_,_,x.hT,y.j+3,_⟩ trivial h' g' bQ aJ)
noncomputable def HM (j0 a b da db ep fp:Nat) (es fs:Array DictEntry) {L F:KV}(hL:Z es L) (hF:Z fs F) (aG:L.length<=sizeLine) (is:List Nat) (nd:is.Nodup) (hl:4=is.length):aL (E2 (W2 w b1 b2)) d os:=
 aL.subN (j0+1109) (cb (L.foldl (eX F) [])) (cb.df _) (.call (.ref 1043) ⟨[.ref (a+1109),.ref (b+1109)],[]⟩) [2,2,1] is [(da+1109,av),(a+1109,ah (da+1109) es ep),(db+1109,av),(b+1109,ah (db+1109) fs fp)] nd hl (fun _=>.ret (.ref (j0+1111))) (fun x=>[(da+1109,av),(a+1109,ah (da+1109) es ep),(db+1109,av),(b+1109,ah (db+1109) fs fp),(j0+1110,av),(j0+1111,ah (j0+1110) x.es x.ep)]) (fun x=>x.j+1109) (fun x=>x.tk) (fun _=>True) (fun x=>by rw [<- hl];rfl) (by
  intro Γ h g p tk Q aV hc hg aJ k
  refine lR aV hc fun f1 f2 f3 p1 p2 p3 p4=>?_
  refine aD (E:=E2 (W2 w b1 b2)) hg aJ ?_
  exact D9 w b1 b2 j0 tk a b da db ep fp es fs L F f1 f2 f3 p1 p2 p3 p4 hL hF aG p (hl▸Nat.le_refl _) fun x rV p' h' g' bQ aJ=>k ⟨_,_,rV,_,_⟩ trivial h' g' bQ aJ)
noncomputable def EC (j0 a da ep:Nat) (es:Array DictEntry) {L:KV}(hL:Z es L) (aG:L.length<=sizeLine) (is:List Nat) (nd:is.Nodup) (hl:2=is.length):aL (E2 (W2 w b1 b2)) d os:=
 aL.subN (j0+1109) (cb (L.foldl (eX L) [])) (cb.df _) (.call (.ref 1043) ⟨[.ref (a+1109),.ref (a+1109)],[]⟩) [2,2,1] is [(da+1109,av),(a+1109,ah (da+1109) es ep)] nd hl (fun _=>.ret (.ref (j0+1111))) (fun x=>[(da+1109,av),(a+1109,ah (da+1109) es ep),(j0+1110,av),(j0+1111,ah (j0+1110) x.es x.ep)]) (fun x=>x.j+1109) (fun x=>x.tk) (fun _=>True) (fun x=>by rw [<- hl];rfl) (by
  intro Γ h g p tk Q aV hc hg aJ k
  refine lR aV hc fun f1 f2 f3 p1 p2 p3 p4=>?_
  refine aD (E:=E2 (W2 w b1 b2)) hg aJ ?_
  exact zI w b1 b2 j0 tk a da ep es L f1 f2 f3 p1 p2 p3 p4 hL aG p (hl▸Nat.le_refl _) fun x rV p' h' g' bQ aJ=>k ⟨_,_,rV,_,_⟩ trivial h' g' bQ aJ)
noncomputable def oi (a b da db rp fp k:Nat) (rs fs:Array DictEntry) {r F:KV}(hr:Z rs r) (hF:Z fs F) (hz:r.length+F.length<=sizeLine) (HA:rs.size=k+1) (HB:k < 7) (is:List Nat) (nd:is.Nodup) (hl:4=is.length):aL (E2 (W2 w b1 b2)) d os:=
 aL.sub (cb (F.foldl dS r)) (cb.df _) (.call (.ref 936) ⟨[.ref (a+1109),.ref (b+1109)],[]⟩) [2,1] is [(da+1109,av),(a+1109,ah (da+1109) rs rp),(db+1109,av),(b+1109,ah (db+1109) fs fp)] nd hl (fun _=>.ret .none) (fun x=>[(da+1109,av),(a+1109,ah (da+1109) x.es x.ep),(db+1109,av),(b+1109,ah (db+1109) fs fp)]) (fun x=>x.j+1109) (fun x=>x.tk) (fun _=>True) (fun x=>by rw [<- hl];rfl) (by
  intro Γ h g p n tk Q aV hc hg aJ kk
  refine kx aV hc fun f1 f2 p1 p2 p3=>?_
  obtain ⟨j,rfl⟩:=dn (i:=0) aJ rfl
  refine aD (E:=E2 (W2 w b1 b2)) hg aJ ?_
  exact Ep hr hF hz HA HB p (hl▸Nat.le_refl _) fun x _ p' h' g' bQ aJ=>kk ⟨_,_,x.hT,_,_⟩ trivial h' g' bQ aJ)
noncomputable def oj (a b da db rp fp:Nat) (rs fs:Array DictEntry) {r F:KV}(hr:Z rs r) (hF:Z fs F) (hz:r.length+F.length<=sizeLine) (is:List Nat) (nd:is.Nodup) (hl:4=is.length):aL (E2 (W2 w b1 b2)) d os:=
 aL.sub (cb (F.foldl dT r)) (cb.df _) (.call (.ref 944) ⟨[.ref (a+1109),.ref (b+1109)],[]⟩) [2,1] is [(da+1109,av),(a+1109,ah (da+1109) rs rp),(db+1109,av),(b+1109,ah (db+1109) fs fp)] nd hl (fun _=>.ret .none) (fun x=>[(da+1109,av),(a+1109,ah (da+1109) x.es x.ep),(db+1109,av),(b+1109,ah (db+1109) fs fp)]) (fun x=>x.j+1109) (fun x=>x.tk) (fun _=>True) (fun x=>by rw [<- hl];rfl) (by
  intro Γ h g p n tk Q aV hc hg aJ kk
  refine kx aV hc fun f1 f2 p1 p2 p3=>?_
  obtain ⟨j,rfl⟩:=dn (i:=0) aJ rfl
  refine aD (E:=E2 (W2 w b1 b2)) hg aJ ?_
  exact Er hr hF hz p (hl▸Nat.le_refl _) fun x _ p' h' g' bQ aJ=>kk ⟨_,_,x.hT,_,_⟩ trivial h' g' bQ aJ)
noncomputable def BW (a b da db fp:Nat) (fs:Array DictEntry) {F:KV}(hF:Z fs F) (h8:F.length<=8) (is:List Nat) (nd:is.Nodup) (hl:4=is.length):aL (E2 (W2 w b1 b2)) d os:=
 aL.sub (cb (cj [] F)) (cb.df _) (.call (.ref 936) ⟨[.ref (a+1109),.ref (b+1109)],[]⟩) [2,1] is [(da+1109,av),(a+1109,ah (da+1109) #[] 0),(db+1109,av),(b+1109,ah (db+1109) fs fp)] nd hl (fun _=>.ret .none) (fun x=>[(da+1109,av),(a+1109,ah (da+1109) x.es x.ep),(db+1109,av),(b+1109,ah (db+1109) fs fp)]) (fun x=>x.j+1109) (fun x=>x.tk) (fun _=>True) (fun x=>by rw [<- hl];rfl) (by
  intro Γ h g p n tk Q aV hc hg aJ kk
  refine kx aV hc fun f1 f2 p1 p2 p3=>?_
  obtain ⟨j,rfl⟩:=dn (i:=0) aJ rfl
  refine aD (E:=E2 (W2 w b1 b2)) hg aJ ?_
  exact Es hF h8 p (hl▸Nat.le_refl _) fun x rV p' h' g' bQ aJ=>kk ⟨_,_,rV,_,_⟩ trivial h' g' bQ aJ)
end
section
variable {A0 A1 A2 A3:KV}{b1 b2 pl:Bool}{d:Drawn}{e0 ep0 ep1 ep2 ep3 j k1 k2 k3 l t t0 t1 te tk:Nat}{es0 es1 es2 es3:Array DictEntry}{p4:Pos}{w:World}
noncomputable abbrev Aw:=fun a b c d e=>(⟨(.type "list"),none,.seq #[(Aa a),(Aa b),(Aa c),(Aa d)] e,#[]⟩:Obj)
noncomputable abbrev AH:=fun a b c=>ah ((a)+1109) b c
noncomputable abbrev AX:=fun a b c d e f g h i j k=>((a+1109,aN (ak (W2 b c d) aT e (.ref 1108)::ak (W2 b c d) bh f (Aa g)::BV (W2 b c d) h i j []) k):Addr×Obj)
noncomputable abbrev Bc:=fun a b c d e f=>((a+1109,ac (bM b c d e) f):Addr×Obj)
theorem JT {os:OsState}{t2 t3:Nat}{q3:Value}(h0:Z es0 A0) (h1:Z es1 A1) (h2:Z es2 A2) (h3:Z es3 A3) (MT:A0.length<=8) (MU:A1.length<=8) (MV:A2.length<=8) (MW:A3.length<=8):
  Qc b1 b2 pl d os fun b1 b2 pl=>⟨Ae w b1 b2,8,(By w b1 b2 l p4),c9 (ca (W2 w b1 b2) 2 1) (Ax w b1 b2 l),[AX l w b1 b2 k1 k2 t pl k3 q3 e0,(l+1110,⟨.type "cell",none,.cell none,#[]⟩),(l+1111,⟨.type "cell",none,.cell none,#[]⟩),Bc t t0 t1 t2 t3 te,Ar t0 es0 ep0,Ar t1 es1 ep1,Ar t2 es2 ep2,Ar t3 es3 ep3],j+1109,tk,.c (tL (j+3) t0 ep0 es0 h0 MT 4) fun x1=>.c (tL x1.j t1 ep1 es1 h1 MU 5) fun x2=>.c (tL x2.j t2 ep2 es2 h2 MV 6) fun x3=>.c (tL x3.j t3 ep3 es3 h3 MW 7) fun x4=>.e (.e (.done .next) [AX l w b1 b2 k1 k2 t pl k3 q3 e0,(l+1110,⟨(.type "cell"),none,.cell (some (.ref (j+1110))),#[]⟩),(l+1111,⟨(.type "cell"),none,.cell none,#[]⟩),(t+1109,(Aw t0 t1 t2 t3 te)),Ar t0 es0 ep0,Ar t1 es1 ep1,Ar t2 es2 ep2,Ar t3 es3 ep3,(j+1110,⟨(.type "list"),none,.seq #[(.ref (j+1113)),(.ref ((x1.j)+1110)),(.ref ((x2.j)+1110)),(.ref ((x3.j)+1110))] 4,#[]⟩),(j+1112,av),(j+1113,ah (j+1112) (cb.es x1) (x1.ep)),((x1.j)+1109,av),((x1.j)+1110,AH x1.j (cb.es x2) (x2.ep)),((x2.j)+1109,av),((x2.j)+1110,AH x2.j (cb.es x3) (x3.ep)),((x3.j)+1109,(av)),((x3.j)+1110,(AH x3.j (cb.es x4) (x4.ep)))] ((x4.j)+1111) ((x4.5)))⟩:=u7 260 (Hx 0x1100b0bb994990909090909909040441) [(Hx 0x1100b0bb9949909090aaa0a0),(Hx 0x1100b0bb9949909090aaa0a0),(Hx 0x1100b0bb9949909090aaa0a0),(Hx 0x122bbb15f9949909090aaa0a0)] [9,11,12,13,14,15,16,17,18] 260 (Hx 0x1100b0bb994990909009040441) [(Hx 0x1100b0bb9949909090aaa0a0),(Hx 0x1100b0bb9949909090aaa0a0),(Hx 0x1100b0bb9949909090aaa0a0),(Hx 0x122bbb15f9949909090aaa0a0)] [9,11,12,13,14,15,16,17,18] (by kernel_rfl)
end
section
variable {b1 b2 pl:Bool}{d:Drawn}{e0 j k1 k2 k3 l me t tk un:Nat}{p4:Pos}{w:World}
theorem JU {os:OsState}{q3:Value}:
  Qv w b1 b2 pl d os fun W pl=>⟨E2 W,1,(eK W l p4),c9 (ca W 3 1) (ab W l),[(l+1109,aN (ak W aT k1 (.ref 1108)::ak W bh k2 (.ref (t+1109))::BV W pl k3 q3 []) e0)],j+1109,tk,.e (.e (.done .next) [(l+1109,bB W pl t (j+11) (j+1) (MQ [k1,k2,k3,tk+20,tk+21]) q3 [] (e0+2)),(j+1109,av),(j+1110,ah (j+1109) #[] 0),(j+1119,av),(j+1120,ah (j+1119) #[] 0)] (j+1133) (tk+22))⟩:=b7 566 (Hx 0x1111119f17f17f16f17f17f017f017f17f17f16f17f17f017f017f17f17f16f17f17f017f017f17f016f016f16f16f14f014f014f014f14f15f15f2015f15f15f15f15f15f000012f0012f13feee13fee0ff0ff000c0dd000000d00d0000000d0ff0dd011f011f0d000010f10f10f010f010f10f10f10f10f10f10f10f0dd0010f010f10f0000000ff00000200ff0ff0ff0ff0ff0ff00000000d0d0000000000000000000000000a0a0a0aabb20bbbbbb000080089444944550002033000000300300000003503307070300006660606666666603300606600000050000020555555000000003030000000000000000000000000) [] [1,2,11,12] (by kernel_rfl)
theorem JV {kf:Nat->Nat}{os:OsState}{q3:Value}:
  Qv w b1 b2 pl d os fun W pl=>⟨E2 W,1,(eK W l p4),c9 (ca W 4 1) (ab W l),[(l+1109,bB W pl t me un kf q3 [] e0)],j+1109,tk,.e (.e (.done .next) [(l+1109,bB W pl t me un (uf (uf kf 5 (tk+20)) 6 (tk+21)) q3 (t2 (.ref (j+1120)) (.ref (j+1110))) (e0+2))] (j+1133) (tk+22))⟩:=b7 566 (Hx 0x1111119f17f17f16f17f17f017f017f17f17f16f17f17f017f017f17f17f16f17f17f017f017f17f016f016f16f16f14f014f014f014f14f15f15f2015f15f15f15f15f15f000012f0012f13feee13fee0ff0ff000c0dd000000d00d0000000d0ff0dd011f011f0d000010f10f10f010f010f10f10f10f10f10f10f10f0dd0010f010f10f0000000ff00000200ff0ff0ff0ff0ff0ff00000000d0d0000000000000000000000000a0a0a0aabb20bbbbbb000080089444944550002033000000300300000003503307070300006660606666666603300606600000050000020555555000000003030000000000000000000000000) [] [] (by kernel_rfl)
end
section
variable {d:Drawn}{os:OsState}{w:World}{b1 b2:Bool}
structure JW where
 t0:Nat
 t1:Nat
 t2:Nat
 t3:Nat
noncomputable def no (j0 tk0 t t0 t1 t2 t3 te kt ep0 ep1 ep2 ep3:Nat) (k:Int) (es0 es1 es2 es3:Array DictEntry) {A0 A1 A2 A3:KV}(h0:Z es0 A0) (h1:Z es1 A1) (h2:Z es2 A2) (h3:Z es3 A3) (is:List Nat) (nd:is.Nodup) (hl:5=is.length):aL (Ae w b1 b2) d os where
 X:=JW
 x0:=⟨0,0,0,0⟩
 L:=_
 look q:=(q.code,is.map (ad q.m),eb q.Γ,q.n,q.tk)
 v:=(.call (.ref 1102) ⟨[.ref (t+1109),.int k kt],[]⟩,([Bc t t0 t1 t2 t3 te,Ar t0 es0 ep0,Ar t1 es1 ep1,Ar t2 es2 ep2,Ar t3 es3 ep3]:Mm).map some,(none,none,none,[2,1],some CC),j0+1109,tk0)
 ans x q:=⟨.pure (.done (.ret (.ref (j0+1112)))),q.p,cW q.m is [Bc t t0 t1 t2 t3 te,Ar t0 es0 ep0,Ar t1 es1 ep1,Ar t2 es2 ep2,Ar t3 es3 ep3,(j0+1112,ac #[.int (ct A0 k) x.t0,.int (ct A1 k) x.t1,.int (ct A2 k) x.t2,.int (ct A3 k) x.t3] 4)],j0+1116,tk0+13,[]⟩
 says _:=True
 holds:=by
  intro h₀ Y hs q Q h g e hc hg hr kk
  obtain ⟨e1,e⟩:=Prod.ext_iff.mp e
  obtain ⟨e2,e⟩:=Prod.ext_iff.mp e
  obtain ⟨e3,e⟩:=Prod.ext_iff.mp e
  obtain ⟨e4,e5⟩:=Prod.ext_iff.mp e
  dsimp only at e1 e2 e3 e4 e5
  have es:=eA e2
  have fA:aE (sel q.m is)=is.length:=by rw [es];exact hl
  have dD:=hr.sub is (an fA) nd
  rw [es,e4] at dD
  refine kx (hc.trans e1) e3 fun f1 f2 p1 p2 p3=>?_
  rw [e5]
  refine aD (E:=E2 (W2 w b1 b2)) hg dD ?_
  exact Ey h0 h1 h2 h3 q.p (hl▸Nat.le_refl _) fun x0 _ x1 _ x2 _ x3 _ p' h' g' bQ aJ=>by
   have z:=kk ⟨x0,x1,x2,x3⟩ trivial h' g' bQ (hr.join' is nd fA aJ (by rw [es,<- hl];rfl))
   exact z
end
theorem rW {M:Model}{Γ:Ctx}{p:Pos}{t:Sem PySem.Fin}{fs:List PySem.Frame}{s s':Shared}{e:End}(h:Runs M Γ p t fs s e s'):s.heap.objs.size<=s'.heap.objs.size:=by
 have u:∀ (h:Heap) a f,(h.update a f).objs.size=h.objs.size:=fun h a f=>by simp [Heap.update]
 induction h<;>(try simp only [Shared.setGen,Heap.size_push,u] at *)<;>lia
theorem ji {M:Model}{Γ:Ctx}{R:Result->Shared->Prop}{p:Pos}{s:Shared}(h:wpCode M Γ (fun r s'=>s.heap.objs.size<=s'.heap.objs.size->R r s') p s):wpCode M Γ R p s:=by
 obtain ⟨r,s',hr,hR⟩:=h
 exact ⟨r,s',hr,hR (rW hr)⟩
noncomputable def MX (Γ:Ctx):Ctx:=match Γ.below with
 | (c,_)::l=>⟨c,none,none,l,none⟩
 | []=>Γ
theorem jj {M:Model}{Γ:Ctx}{f:Value}{pos:List Value}{c1:Code}{p1:Pos}{l:List (Code×Pos)}{R:Result->Shared->Prop}{p:Pos}{s:Shared}(aV:Γ=⟨.call f ⟨pos,[]⟩,none,none,(c1,p1)::l,none⟩)
  (h:wpAny M (dk ⟨c1,none,none,l,none⟩) (call f pos) (fun v s'=>R (.ok (.ret v)) s') (fun e s'=>R (.error e) s') s) (hp:p=p1):wpCode M Γ R p s:=by
 subst aV hp
 have z:=h ⟨c1,none,none,l,none⟩ p (lI _)
 unfold call runValue at z
 obtain ⟨r,s',hr,hR⟩:=z
 refine ⟨r,s',hr,?_⟩
 match r,hR with
 | .ok (.ret v),hR=>exact hR
 | .error e,hR=>exact hR
noncomputable def mh (c:Code):Option (Value×List Value):=match c with
 | .call f a=>match a with
  | ⟨pos,[]⟩=>some (bJ f,pos.map bJ)
  | _=>none
 | _=>none
noncomputable def qy (q:bC):Option Value×Option Value×Option Value×Bool:=(q.Γ.handled,q.Γ.own,q.Γ.past,match q.Γ.below with
 | (_,p)::_=>decide (p=q.p)
 | []=>false)
theorem mi {q:bC}(h:qy q=(none,none,none,true)):∃ c1 l,q.Γ=⟨q.Γ.code,none,none,(c1,q.p)::l,none⟩:=by
 obtain ⟨⟨c,a,b,l,z⟩,code,p,m,n,tk⟩:=q
 unfold qy at h
 simp only [Prod.mk.injEq] at h
 obtain ⟨rfl,rfl,rfl,h⟩:=h
 cases l with
 | nil=>cases h
 | cons x l=>
  obtain ⟨c1,p1⟩:=x
  have h:decide (p1=p)=true:=h
  have h:=of_decide_eq_true h
  subst h
  exact ⟨c1,l,rfl⟩
theorem j8 {c:Code}{f:Value}{l:List Value}(h:mh c=some (f,l)):∃ f' pos,c=.call f' ⟨pos,[]⟩/\bJ f'=f/\pos.map bJ=l:=by
 unfold mh at h
 split at h
 ·split at h
  ·injection h with h
   injection h with h1 h2
   exact ⟨_,_,rfl,h1,h2⟩
  ·cases h
 ·cases h
noncomputable def qz (Γ:Ctx):Around:={handled:=Γ.handled,depth:=frameCount Γ.below,units:=unitsOf Γ.below}
theorem mj (Γ:Ctx):Γ.Below (qz Γ):=⟨rfl,Nat.le_refl _,(fun _ h=>nomatch h),(fun _ h=>nomatch h),Nat.le_refl _⟩
theorem kH {prog:Program}{w:World}{Γ:Ctx}{id:String}{args:Args}{b:Builtin}{S:PySem.Spec}{R:Result->Shared->Prop}{p:Pos}{s:Shared}(aV:Γ.code=.builtin id args) (hb:entryFor table id=some b) (pl:plainId id=true) (g:Meets (b args) S) (h:S (qz Γ) R s):wpCode (model prog w) Γ R p s:=
 codeAny_builtin hb (by rw [Around.under_plainId pl];exact g prog w _ R s h) Γ p aV (mj Γ)
structure F9 where
 t:Nat
 j:Nat
 tk:Nat
theorem iJ (val:Nat->Int) (n:Nat):val (argBest (fun i j=>decide (val i>val j)) (n+1))=max (val (argBest (fun i j=>decide (val i>val j)) n)) (val (n+1)):=by
 show val (if decide (val (n+1)>val (argBest (fun i j=>decide (val i>val j)) n))=true then n+1 else argBest (fun i j=>decide (val i>val j)) n)=_
 generalize argBest (fun i j=>decide (val i>val j)) n=k
 by_cases h:val (n+1)>val k
 ·rw [if_pos (decide_eq_true h)];lia
 ·rw [if_neg (by simpa using h)];lia
theorem j9 (val:Nat->Int) (n:Nat):val (argBest (fun i j=>decide (val i < val j)) (n+1))=min (val (argBest (fun i j=>decide (val i < val j)) n)) (val (n+1)):=by
 show val (if decide (val (n+1) < val (argBest (fun i j=>decide (val i < val j)) n))=true then n+1 else argBest (fun i j=>decide (val i < val j)) n)=_
 generalize argBest (fun i j=>decide (val i < val j)) n=k
 by_cases h:val (n+1) < val k
 ·rw [if_pos (decide_eq_true h)];lia
 ·rw [if_neg (by simpa using h)];lia
theorem Ga (val:Nat->Int):val (argBest (fun i j=>decide (val i>val j)) 3)=max (max (max (val 0) (val 1)) (val 2)) (val 3):=by
 exact (iJ val 2).trans (congrArg (max · _) ((iJ val 1).trans (congrArg (max · _) (iJ val 0))))
theorem tM (val:Nat->Int):val (argBest (fun i j=>decide (val i < val j)) 3)=min (min (min (val 0) (val 1)) (val 2)) (val 3):=by
 exact (j9 val 2).trans (congrArg (min · _) ((j9 val 1).trans (congrArg (min · _) (j9 val 0))))
theorem Gb (val:Nat->Int):val (argBest (fun i j=>decide (val i>val j)) 4)=max (max (max (max (val 0) (val 1)) (val 2)) (val 3)) (val 4):=by
 exact (iJ val 3).trans (congrArg (max · _) (Ga val))
section
variable {E:En}{d:Drawn}{os:OsState}
noncomputable def jk (mx:Bool) (i l e:Nat) (vs:Array Value) (xs:Array (Int×Tok)) (hx:vs=intItems xs) (bD:0 < xs.size) (r:Int)
  (hr:numAt xs (argBest (fun i j=>@Bool.rec (fun _=>Bool) (decide (numAt xs i < numAt xs j)) (decide (numAt xs i>numAt xs j)) mx) (xs.size - 1))=r):aL E d os:=
 aL.leaf F9 ⟨0,0,0⟩ (fun q=>(mh q.code,ad q.m i,qy q)) (some (.builtin (@Bool.rec (fun _=>String) "min" "max" mx),[.ref (l+1109)]),some (l+1109,ac vs e),none,none,none,true) (fun x _=>.int r x.t) (fun _ q=>q.m) (fun x _=>x.j+1109) (fun x _=>x.tk) (fun _=>True) (by
  intro h₀ Y q Q h g e' hc hg eq kk
  obtain ⟨e1,e'⟩:=Prod.ext_iff.mp e'
  obtain ⟨e2,e3⟩:=Prod.ext_iff.mp e'
  dsimp only at e1 e2 e3
  obtain ⟨f',pos,e4,e5,e6⟩:=j8 e1
  obtain ⟨c1,l',qA⟩:=mi e3
  rw [hc.trans e4] at qA
  obtain ⟨x,rfl,Al⟩:∃ x,pos=[x]/\bJ x=.ref (l+1109):=by
   rcases pos with _ | ⟨x,_ | ⟨y,pos⟩⟩
   ·cases e6
   ·injection e6 with e6;exact ⟨x,rfl,e6⟩
   ·injection e6 with _ e6;cases e6
  obtain rfl:=cx Al
  have hf:f'=.builtin (@Bool.rec (fun _=>String) "min" "max" mx):=by
   cases f'<;>first | exact e5 | cases e5
  subst hf
  refine ji ?_
  refine jj qA ?_ rfl
  obtain ⟨j,hj⟩:=dn (i:=i) eq e2
  have hl:h.IsList (l+1109) (intItems xs):=⟨_,eq.own _ _ _ e2,rfl,e,by rw [<- hx];rfl⟩
  have fin:∀ v h' tk,(intItems xs)[argBest (fun i j=>@Bool.rec (fun _=>Bool) (decide (numAt xs i < numAt xs j)) (decide (numAt xs i>numAt xs j)) mx) (xs.size - 1)]?=some v->(∀ b o,h.get? b=some o->h'.get? b=some o)->h.objs.size<=h'.objs.size->Q (.ok (.ret v)) ⟨h',g,d,tk,os⟩:=by
   intro v h' tk hv hk hs
   obtain ⟨t,rfl⟩:=intItems_at hv
   rw [hr]
   have hn:h'.objs.size=(h'.objs.size - 1109)+1109:=by have:=eq.size;lia
   exact kk ⟨t,h'.objs.size - 1109,tk⟩ trivial h' g hg (eq.grow hn (by rw [<- hn,<- eq.size];exact hs) hk)
  cases mx with
  | true=>exact max_intList rfl hl bD fun v h' tk hv hk=>fin v h' tk hv hk
  | false=>exact min_intList rfl hl bD fun v h' tk hv hk=>fin v h' tk hv hk)
end
section
variable {prog:Program}{w:World}{A:Around}{E:Value->Shared->Prop}{s:Shared}
theorem kW {it d a:Addr}{f:Bool}{oa od:Obj}{i n ep:Nat}{es:Array DictEntry}{e:DictEntry}{ok ov:Value}{Q:Option Value->Shared->Prop}(hit:KdxIt s.heap it d i n ep ok ov a f) (ha:s.heap.get? a=some oa) (rX:a≠it)
  (eM:s.heap.get? d=some od) (dU:od.data=.dict es ep) (aG:es.size=n) (hx:es[i]?=some e)
  (hQ:∀ h',KdxIt h' it d (i+1) n ep ok ov a true->h'.get? s.heap.objs.size=some {cls:=.type "tuple",data:=.seq #[e.key,e.val]}->h'.objs.size=s.heap.objs.size+1->
   (∀ b o,b≠it->s.heap.get? b=some o->h'.get? b=some o)->Q (some (.ref s.heap.objs.size)) {s with heap:=h'}):
  wpAny (model prog w) A (pyNext (.ref it)) Q E s:=by
 obtain ⟨hp,g,dr,tk,os⟩:=s
 have hT:Shared.TypeIs ⟨hp,g,dr,tk,os⟩ (.ref it) "dict_itemiterator":=⟨_,hit,rfl⟩
 unfold pyNext
 refine wpAny_bind (wpAny_attempt (wpAny_callSpecial?_slot (name:=Str.ofString "__next__") hT F.slot_dict_itemiterator_next
  (wpAny_call_entry F.slot_dict_itemiterator_next hT F.entry_dict_itemiterator_next ?_ (F.args_dict_itemiterator_next_1 _))))
 refine wpAny_bind (wpAny_pure ?_)
 refine wpAny_bind ?_
 refine wpAny_bind ?_
 first | refine wpAny_bind (wpAny_typeNameOfWhole_itemiter hT (wpAny_pure ?_)) | refine wpAny_bind (wpAny_typeNameOf_itemiter hT (wpAny_pure ?_))
 refine wpAny_bind (wpAny_fieldsOf hit rfl ?_)
 have gy:Builtin.Dict_items.ownsTuple "dict_itemiterator"=true:=by decide
 simp only [gy,if_true]
 show wpAny _ _ (if (Value.ref d==Value.none)=true then _ else _) _ _ _
 rw [if_neg (show ¬ ((Value.ref d==Value.none)=true) from Bool.false_ne_true)]
 refine wpAny_bind (wpAny_pure ?_)
 refine wpAny_bind (wpAny_dictEntries eM dU ?_)
 rw [if_neg (by rw [aG];simp)]
 refine wpAny_bind (wpAny_pure ?_)
 refine wpAny_bind (wpAny_dictEpoch eM dU ?_)
 rw [if_neg (by simp)]
 refine wpAny_pure ?_
 simp only [show ¬ ((i:Int) < 0) from by lia,if_false,Int.toNat_natCast,hx]
 refine wpAny_bind ?_
 first | refine wpAny_bind (wpAny_typeNameOfWhole_itemiter hT (wpAny_pure ?_)) | refine wpAny_bind (wpAny_typeNameOf_itemiter hT (wpAny_pure ?_))
 refine wpAny_bind (wpAny_isOneOf_itemiter hT ?_)
 show wpAny _ _ (setField (.ref it) 3 (rawInt ((i:Int)+1))>>=_) _ _ ⟨hp,g,dr,tk,os⟩
 refine wpAny_bind (wpAny_setField_rec hit (by simp) fun h₁ cM cw=>?_)
 replace cw:Heap.SameBut it hp h₁:=cw
 replace cM:KdxIt h₁ it d (i+1) n ep ok ov a f:=by
  have e:((i+1:Nat):Int)=(i:Int)+1:=by lia
  unfold KdxIt;rw [e];simpa [rawInt] using cM
 have iZ:Shared.TypeIs ⟨h₁,g,dr,tk,os⟩ (.ref it) "dict_itemiterator":=⟨_,cM,rfl⟩
 refine wpAny_bind (wpAny_holding ?_)
 refine wpAny_bind (wpAny_isOneOf_itemiter iZ ?_)
 refine wpAny_bind (wpAny_isOneOf_itemiter iZ ?_)
 show wpAny _ _ (Builtin.Dict_items.pairFromOwner (.ref it) 6 e.key e.val) _ _ ⟨h₁,g,dr,tk,os⟩
 unfold Builtin.Dict_items.pairFromOwner
 refine wpAny_bind (wpAny_newTuple ?_)
 have dV:KdxIt (h₁.push {cls:=.type "tuple",data:=.seq #[e.key,e.val]}) it d (i+1) n ep ok ov a f:=Heap.get?_push_of_some _ cM
 generalize gM:h₁.push {cls:=.type "tuple",data:=.seq #[e.key,e.val]}=fk at dV
 have gN:h₁.objs.size=hp.objs.size:=cw.1
 have rd:it < hp.objs.size:=Heap.lt_size hit
 have re:fk.get? hp.objs.size=some {cls:=.type "tuple",data:=.seq #[e.key,e.val]}:=by rw [<- gM,<- gN];exact Heap.get?_push_size _ rfl
 have rg:fk.objs.size=hp.objs.size+1:=by rw [<- gM,Heap.size_push,gN]
 have nK:∀ b o,b≠it->hp.get? b=some o->fk.get? b=some o:=fun b o hb e=>by rw [<- gM];exact Heap.get?_push_of_some _ (cw.extBut b o hb e)
 show wpAny _ _ (Builtin.Dict_items.ownedTupleIsFree (.ref it)>>=_) _ _ ⟨fk,g,dr,tk,os⟩
 rw [gN]
 clear gM cM cw iZ gN h₁
 have HN:fk.get? a=some oa:=nK a oa rX ha
 refine wpAny_bind ?_
 unfold Builtin.Dict_items.ownedTupleIsFree
 refine wpAny_bind (wpAny_field dV rfl (x:=rawInt a) rfl ?_)
 show wpAny _ _ (loadIfAlive ((a:Int).toNat)>>=_) _ _ _
 rw [Int.toNat_natCast]
 refine wpAny_bind (kdx_alive HN ?_)
 simp only [Option.isNone_some,Bool.false_eq_true,if_false]
 refine wpAny_bind (wpAny_field dV rfl (x:=.bool f) rfl ?_)
 have fin:∀ gf:Heap,KdxIt gf it d (i+1) n ep ok ov a true->Heap.SameBut it fk gf->Q (some (.ref hp.objs.size)) ⟨gf,g,dr,tk,os⟩:=fun gf gO e9=>
  hQ gf gO (e9.extBut _ _ (Nat.ne_of_gt rd) re) (by show gf.objs.size=hp.objs.size+1;rw [e9.1,rg]) fun b o hb e=>e9.extBut b o hb (nK b o hb e)
 cases f with
 | true=>
  rw [if_neg (show ¬ ((Value.bool true != Value.bool true)=true) from Bool.false_ne_true)]
  refine wpAny_pure ?_
  simp only [Bool.false_eq_true,if_false]
  exact wpAny_pure (wpAny_pure ⟨_,rfl,wpAny_pure (fin fk dV (Heap.SameBut.refl _ _))⟩)
 | false=>
  rw [if_pos (show (Value.bool false != Value.bool true)=true from rfl)]
  refine wpAny_bind (wpAny_setField_rec dV (by simp) fun gf gO e9=>?_)
  replace e9:Heap.SameBut it fk gf:=e9
  replace gO:KdxIt gf it d (i+1) n ep ok ov a true:=gO
  refine wpAny_pure ?_
  simp only [Bool.false_eq_true,if_false]
  exact wpAny_pure (wpAny_pure ⟨_,rfl,wpAny_pure (fin gf gO e9)⟩)
theorem kb {it d:Addr}{i n ep:Nat}{od:Obj}{es:Array DictEntry}{o0 f0 ok ov:Value}{Q:Option Value->Shared->Prop}(hh:A.handled=none)
  (hit:s.heap.get? it=some {cls:=.type "dict_itemiterator",dict:=none,data:=.fields #[o0,f0,.ref d,.int i 0,.int n 0,.int ep 0,ok,ov],slots:=#[]})
  (eM:s.heap.get? d=some od) (dU:od.data=.dict es ep) (aG:es.size=n) (hx:n<=i)
  (hQ:∀ h',Heap.ExtBut it s.heap h'->Q none {s with heap:=h'}):wpAny (model prog w) A (pyNext (.ref it)) Q E s:=by
 have hT:s.TypeIs (.ref it) "dict_itemiterator":=⟨_,hit,rfl⟩
 unfold pyNext
 refine wpAny_bind (wpAny_attempt (wpAny_callSpecial?_slot (name:=Str.ofString "__next__") hT F.slot_dict_itemiterator_next
  (wpAny_call_entry F.slot_dict_itemiterator_next hT F.entry_dict_itemiterator_next ?_ (F.args_dict_itemiterator_next_1 _))))
 refine wpAny_bind (wpAny_pure ?_)
 refine wpAny_bind ?_
 refine wpAny_bind ?_
 first | refine wpAny_bind (wpAny_typeNameOfWhole_itemiter hT (wpAny_pure ?_)) | refine wpAny_bind (wpAny_typeNameOf_itemiter hT (wpAny_pure ?_))
 refine wpAny_bind (wpAny_fieldsOf hit rfl ?_)
 have gy:Builtin.Dict_items.ownsTuple "dict_itemiterator"=true:=by decide
 simp only [gy,if_true]
 show wpAny _ _ (if (Value.ref d==Value.none)=true then _ else _) _ _ s
 rw [if_neg (show ¬ ((Value.ref d==Value.none)=true) from Bool.false_ne_true)]
 refine wpAny_bind (wpAny_pure ?_)
 refine wpAny_bind (wpAny_dictEntries eM dU ?_)
 rw [if_neg (by rw [aG];simp)]
 refine wpAny_bind (wpAny_pure ?_)
 refine wpAny_bind (wpAny_dictEpoch eM dU ?_)
 rw [if_neg (by simp)]
 refine wpAny_pure ?_
 have wr:es.size<=i:=by rw [aG];exact hx
 simp only [show ¬ ((i:Int) < 0) from by lia,if_false,Int.toNat_natCast,Array.getElem?_eq_none wr]
 refine wpAny_bind ?_
 first | refine wpAny_bind (wpAny_typeNameOfWhole_itemiter hT (wpAny_pure ?_)) | refine wpAny_bind (wpAny_typeNameOf_itemiter hT (wpAny_pure ?_))
 show wpAny _ _ (setField (.ref it) 2 .none>>=_) _ _ s
 refine wpAny_bind (wpAny_setField hit rfl (by simp) ?_)
 show wpAny _ _ (newExc (.type "StopIteration") []>>=_) _ _ _
 refine wpAny_bind ?_
 simp only [newExc,newTuple]
 refine wpAny_bind (wpAny_newObj_type ?_ (by size_fits))
 refine wpAny_bind (m:=firstArgMember _ _) (wpAny_of_eq (a:=Value.none) (by first | rfl | (simp only [firstArgMember];rfl)) ?_)
 refine wpAny_newObj_type ?_ (by size_fits)
 simp only [raiseNew]
 refine wpAny_bind (wpAny_handled ?_)
 rw [show A.in1.handled=none from hh]
 refine wpAny_bind (wpAny_pure (wpAny_throw ?_))
 refine wpAny_bind (wpAny_isInstance (T:="StopIteration") (b:=true) ⟨_,Heap.get?_push_size _ rfl,rfl⟩ isSubtype_stop ?_)
 exact wpAny_pure (hQ _ (((Heap.SameBut.update ..).extBut.push _).push _))
noncomputable def qB (h:Heap) (it d S:Addr) (i n ep:Nat):Prop:=
 (∃ ok ov,IsItemIter h it d i n ep ok ov)∨∃ ok ov a f oa,KdxIt h it d i n ep ok ov a f/\h.get? a=some oa/\a≠it/\a≠S
theorem qB.keep {h h':Heap}{it d S:Addr}{i n ep:Nat}(x:qB h it d S i n ep) (hk:∀ b o,b≠S->h.get? b=some o->h'.get? b=some o) (hI:it≠S):qB h' it d S i n ep:=by
 rcases x with ⟨ok,ov,hit⟩ | ⟨ok,ov,a,f,oa,hit,ha,rX,ED⟩
 ·exact .inl ⟨ok,ov,hk _ _ hI hit⟩
 ·exact .inr ⟨ok,ov,a,f,oa,hk _ _ hI hit,hk _ _ ED ha,rX,ED⟩
structure tN (es:List DictEntry) (lo:Addr) (h:Heap) (as:List Addr):Prop where
 rise:as.Pairwise (· < ·)
 above:∀ a∈as,lo < a
 pairs:∀ (j:Nat) (a:Addr),as[j]?=some a->∃ e,es[j]?=some e/\h.get? a=some {cls:=.type "tuple",data:=.seq #[e.key,e.val]}
end
section
variable {prog:Program}{w:World}{A:Around}{s:Shared}{R:Result->Shared->Prop}{es:Array DictEntry}{ep:Nat}{od:Obj}
theorem qC {S I d:Addr}(hh:A.handled=none) (JX:S < I) (BX:d≠S) (MY:d≠I) (hn:es.size<=sizeLine) (dU:od.data=.dict es ep) (HO:Value) {h₁:Heap}
  (hR:∀ h' tk aA c as,(∀ b o,b≠S->b≠I->h₁.get? b=some o->h'.get? b=some o)->h'.get? S=some {cls:=.type "list",dict:=none,data:=.seq aA c,slots:=#[]}->as.length=es.size->tN es.toList I h' as->
   aA.toList=as.map Value.ref->R (.ok (.ret HO)) {s with heap:=h',toks:=tk}):
  ∀ (k i:Nat) (h:Heap) (tk c:Nat) (aA:Array Value) (as:List Addr),es.size - i=k->i<=es.size->qB h I d S i es.size ep->h.get? d=some od->(∀ b o,b≠S->b≠I->h₁.get? b=some o->h.get? b=some o)->
   h.get? S=some {cls:=.type "list",dict:=none,data:=.seq aA c,slots:=#[]}->aA.toList=as.map Value.ref->as.length=i->tN es.toList I h as->I < h.objs.size->
   codeAny (model prog w) A (.builtin "list.extend.loop" ⟨[.ref S,.ref I,HO],[]⟩) R {s with heap:=h,toks:=tk}:=by
 have bD:S≠I:=Nat.ne_of_lt JX
 intro k
 induction k with
 | zero=>
  intro i h tk c aA as hk hi BY hD rY hS hZ ol hG HP
  refine codeAny_builtin PySem.F.entry_extend_loop ?_
  rw [Around.under_plainId PySem.F.plain_extend_loop _]
  show wpAny _ A.in1 (pyNext (.ref I)>>=_) _ _ _
  obtain ⟨o0,f0,ok,ov,hit⟩:∃ o0 f0 ok ov,h.get? I=some {cls:=.type "dict_itemiterator",dict:=none,data:=.fields #[o0,f0,.ref d,.int i 0,.int es.size 0,.int ep 0,ok,ov],slots:=#[]}:=by
   rcases BY with ⟨ok,ov,hit⟩ | ⟨ok,ov,a,f,oa,hit,_⟩
   ·exact ⟨_,_,_,_,hit⟩
   ·exact ⟨_,_,_,_,hit⟩
  refine wpAny_bind (kb (s:={s with heap:=h,toks:=tk}) (A:=A.in1) hh hit hD dU rfl (by lia) fun h' he=>?_)
  refine wpAny_pure (hR h' tk aA c as (fun b o h1 h2 e=>he b o h2 (rY b o h1 h2 e)) (he S _ bD hS) (by lia) ⟨hG.rise,hG.above,fun j a hj=>?_⟩ hZ)
  obtain ⟨e,e1,e3⟩:=hG.pairs j a hj
  exact ⟨e,e1,he a _ (Nat.ne_of_gt (hG.above a (List.mem_of_getElem? hj))) e3⟩
 | succ k ih=>
  intro i h tk c aA as hk hi BY hD rY hS hZ ol hG HP
  have cv:i < es.size:=by lia
  obtain ⟨e,hx⟩:∃ e,es[i]?=some e:=⟨es[i],Array.getElem?_eq_getElem cv⟩
  have aG:aA.size=i:=by rw [<- Array.length_toList,hZ,List.length_map,ol]
  have qD:S < h.objs.size:=Heap.lt_size hS
  refine codeAny_builtin PySem.F.entry_extend_loop ?_
  rw [Around.under_plainId PySem.F.plain_extend_loop _]
  show wpAny _ A.in1 (pyNext (.ref I)>>=_) _ _ _
  refine wpAny_bind ?_
  have fin:∀ h',qB h' I d S (i+1) es.size ep->h'.get? h.objs.size=some {cls:=.type "tuple",data:=.seq #[e.key,e.val]}->h'.objs.size=h.objs.size+1->(∀ b o,b≠I->h.get? b=some o->h'.get? b=some o)->
    wpAny (model prog w) A.in1 (updateSeq S (·.push (Value.ref h.objs.size))>>=fun _=>again (.builtin "list.extend.loop" ⟨[.ref S,.ref I,HO],[]⟩)) (fun fin s'=>match fin with | .done f=>R (.ok f) s' | .again c'=>c'.quiet=true/\codeAny (model prog w) A c' R s') (fun e s'=>R (.error e) s') {s with heap:=h',toks:=tk}:=by
   intro h' JY ht hz om
   have vI:=om S _ bD hS
   have up:∀ b o,b≠S->h'.get? b=some o->(h'.update S (Obj.mapSeq (·.push (Value.ref h.objs.size)))).get? b=some o:=fun b o hb e=>(Heap.get?_update_other _ _ (Ne.symm hb)).trans e
   refine wpAny_bind ?_
   refine wpAny_updateSeq (s:={s with heap:=h',toks:=tk}) vI rfl (wpAny_pure ⟨plainId_quiet PySem.F.plain_extend_loop _,ih (i+1) _ tk _ (aA.push (Value.ref h.objs.size)) (as++[h.objs.size]) (by lia) cv (JY.keep up (Ne.symm bD)) (up d _ BX (om d _ MY hD))
    (fun b o h1 h2 e=>up b o h1 (om b o h2 (rY b o h1 h2 e))) (Heap.get?_update_self _ vI rfl) (by rw [Array.toList_push,hZ,List.map_append];rfl) (by rw [List.length_append,ol];rfl) ⟨?_,?_,?_⟩ ?_⟩) (by rw [aG];lia) (by show (aA.push (Value.ref h.objs.size)).size<=sizeLine+1;rw [Array.size_push,aG];lia)
   ·refine List.pairwise_append.mpr ⟨hG.rise,List.pairwise_singleton _ _,fun a ha b hb=>?_⟩
    rw [List.mem_singleton.mp hb]
    obtain ⟨j,hj⟩:=List.mem_iff_getElem?.mp ha
    obtain ⟨_,_,e3⟩:=hG.pairs j a hj
    exact Heap.lt_size e3
   ·intro a ha
    rcases List.mem_append.mp ha with ha | ha
    ·exact hG.above a ha
    ·rw [List.mem_singleton.mp ha];exact HP
   ·intro j b hj
    rcases Nat.lt_trichotomy j as.length with h1 | h1 | h1
    ·rw [List.getElem?_append_left h1] at hj
     obtain ⟨e',e1,e3⟩:=hG.pairs j b hj
     have hb:=hG.above b (List.mem_of_getElem? hj)
     exact ⟨e',e1,up b _ (Nat.ne_of_gt (Nat.lt_trans JX hb)) (om b _ (Nat.ne_of_gt hb) e3)⟩
    ·subst h1
     have hb:h.objs.size=b:=by simpa using hj
     subst hb
     exact ⟨e,by rw [ol];simpa using hx,up _ _ (Nat.ne_of_gt qD) ht⟩
    ·have HQ:(as++[h.objs.size])[j]?=none:=List.getElem?_eq_none (by rw [List.length_append,List.length_singleton];lia)
     rw [HQ] at hj;cases hj
   ·exact Nat.lt_trans HP (Heap.lt_size (up _ _ (Nat.ne_of_gt qD) ht))
  rcases BY with ⟨ok,ov,hit⟩ | ⟨ok,ov,a,f,oa,hit,ha,rX,ED⟩
  ·exact e8 (s:={s with heap:=h,toks:=tk}) hit hD dU rfl hx fun h' BZ ht hz om=>fin h' (.inr ⟨_,_,_,false,_,BZ,ht,Nat.ne_of_gt (Heap.lt_size hit),Nat.ne_of_gt qD⟩) ht hz om
  ·exact kW (s:={s with heap:=h,toks:=tk}) hit ha rX hD dU rfl hx fun h' BZ ht hz om=>fin h' (.inr ⟨_,_,a,true,oa,BZ,om a oa rX ha,rX,ED⟩) ht hz om
theorem qE {E:Value->Shared->Prop}{v d:Addr}{Q:Value->Shared->Prop}(hv:s.heap.IsItemsView v d) (ho:s.heap.get? d=some od) (Gc:od.data=.dict es ep)
  (hQ:Q (.ref s.heap.objs.size) {s with heap:=s.heap.push {cls:=.type "dict_itemiterator",data:=.fields #[.none,.bool false,.ref d,.int 0 0,.int es.size 0,.int ep 0,.none,.none]}}):
  wpAny (model prog w) A (pyIter (.ref v)) Q E s:=by
 obtain ⟨ov,MZ,Os,M1⟩:=id hv
 refine wpAny_pyIter_slot hv.typeIs F.slot_dict_items_iter (wpAny_call_entry F.slot_dict_items_iter hv.typeIs F.entry_dict_items_iter ?_ (F.args_dict_items_iter_1 _))
 unfold Builtin.«dict_items.__iter__»
 refine wpAny_bind (wpAny_pure ?_)
 refine wpAny_bind ?_
 unfold Builtin.Dict_items.dictOf
 refine wpAny_bind (wpAny_field MZ M1 (x:=.ref d) rfl (wpAny_pure ?_))
 refine wpAny_bind ?_
 unfold Builtin.Dict_items.newIterator
 refine wpAny_bind (wpAny_dictEntries ho Gc ?_)
 refine wpAny_bind (wpAny_dictEpoch ho Gc ?_)
 have gy:Builtin.Dict_items.ownsTuple "dict_itemiterator"=true:=by decide
 simp only [gy,if_true]
 refine wpAny_newObj_type (wpAny_pure ⟨_,rfl,"dict_itemiterator",_,⟨_,Heap.get?_push_size _ rfl,rfl⟩,F.slot_dict_itemiterator_next.lookup,?_⟩)
  (by simp only [sizeOk,Builtin.Dict_items.ownedTupleFields,List.size_toArray,List.length_append,List.length_cons,List.length_nil,sizeLine_eq];lia)
 simpa [rawInt,Builtin.Dict_items.ownedTupleFields] using hQ
theorem qF {r d : Addr} (hh : A.handled = none) (hv : s.heap.IsItemsView r d) (ho : s.heap.get? d = some od) (dU : od.data = .dict es ep) (S : Addr) (JZ : S ≠ r) (BX : d ≠ S) (hS : s.heap.get? S = some { cls := .type "list", data := .seq #[] })
    (hR : ∀ h' tk aA c as, (∀ b o, b ≠ S -> s.heap.get? b = some o -> h'.get? b = some o) -> h'.get? S = some { cls := .type "list", dict := none, data := .seq aA c, slots := #[] } -> as.length = es.size -> tN es.toList S h' as ->
      aA.toList = as.map Value.ref -> R (.ok (.ret .none)) { s with heap := h', toks := tk }) (hn : es.size <= sizeLine) :
    wpAny (model prog w) A.in1 (Builtin.«list.__init__» ⟨[.ref S, .ref r], []⟩)
      (fun fin s' => match fin with | .done f => R (.ok f) s' | .again c' => c'.quiet = true /\ codeAny (model prog w) A c' R s') (fun e s' => R (.error e) s') s := by
  show wpAny _ _ (do let old <- Builtin.List.listItems (.ref S); Builtin.List.listUpdate (.ref S) (fun _ => #[]); letGo old.toList.reverse; Builtin.List.listExtendWith (.ref S) (.ref r) .none) _ _ s
  refine wpAny_bind ?_
  unfold Builtin.List.listItems
  refine wpAny_bind (wpAny_seqItems hS rfl (wpAny_pure ?_))
  show wpAny _ _ (updateSeq S (fun _ => #[]) >>= fun _ => letGo (#[] : Array Value).toList.reverse >>= fun _ => Builtin.List.listExtendWith (.ref S) (.ref r) .none) _ _ s
  refine wpAny_bind (wpAny_updateSeq hS rfl ?_)
  have kc := Heap.get?_update_self (Obj.mapSeq (fun _ => (#[] : Array Value))) hS rfl
  have HR : ∀ b o, b ≠ S -> s.heap.get? b = some o -> (s.heap.update S (Obj.mapSeq (fun _ => (#[] : Array Value)))).get? b = some o :=
    fun b o hb e => (Heap.get?_update_other _ _ (Ne.symm hb)).trans e
  refine wpAny_bind (wpAny_letGo ?_)
  have oq : (s.heap.update S (Obj.mapSeq (fun _ => (#[] : Array Value)))).IsItemsView r d := let ⟨o, ho, x⟩ := hv; ⟨o, HR r o JZ.symm ho, x⟩
  have ot := HR d _ BX ho
  have Ca := HR
  have qD := Heap.lt_size kc
  have J0 := Heap.lt_size ot
  generalize Ot : s.heap.update S (Obj.mapSeq (fun _ => (#[] : Array Value))) = h2 at kc oq ot Ca qD J0 ⊢
  have key : ∀ (h : Heap) (c₁ tk : Nat), (∀ b o, b ≠ S -> (h2.push { cls := .type "dict_itemiterator", data := .fields #[.none, .bool false, .ref d, .int 0 0, .int es.size 0, .int ep 0, .none, .none] }).get? b = some o -> h.get? b = some o) ->
      h.get? S = some { cls := .type "list", data := .seq #[] c₁ } -> codeAny (model prog w) A (.builtin "list.extend.loop" ⟨[.ref S, .ref h2.objs.size, .none], []⟩) R { s with heap := h, toks := tk } := by
    intro h c₁ tk hk ml
    have hI := hk h2.objs.size _ (Nat.ne_of_gt qD) (Heap.get?_push_size _ rfl)
    refine qC (s := s) (h₁ := h2) (od := od) hh qD BX (Nat.ne_of_lt J0) hn dU .none (fun h' aF aA c as HS vI hl hG hZ => hR h' aF aA c as (fun b o hb e => HS b o hb (Nat.ne_of_lt (Heap.lt_size (Ca b o hb e))) (Ca b o hb e)) vI hl ⟨hG.rise, fun a ha => Nat.lt_trans qD (hG.above a ha), hG.pairs⟩ hZ)
      es.size 0 h tk c₁ #[] [] (Nat.sub_zero _) (Nat.zero_le _) (.inl ⟨.none, .none, hI⟩) (hk d _ BX (Heap.get?_push_of_some _ ot)) (fun b o hb _ e => hk b o hb (Heap.get?_push_of_some _ e)) ml rfl rfl
      ⟨List.Pairwise.nil, (fun _ ha => nomatch ha), (fun j a hj => by simp at hj)⟩ (Heap.lt_size hI)
  unfold Builtin.List.listExtendWith
  refine wpAny_bind (wpAny_typeOf (T := "dict_items") (oq.typeIs (s := { s with heap := h2 })) ?_)
  have h1 : Builtin.List.listSameRef (.ref S) (.ref r) = false := by simp [Builtin.List.listSameRef, JZ]
  have M2 : (Value.type "dict_items" == Value.type "list") = false := by decide
  have h3 : (Value.type "dict_items" == Value.type "tuple") = false := by decide
  simp only [h1, M2, h3, Bool.or_false, Bool.false_eq_true, if_false]
  refine wpAny_bind (qE (s := { s with heap := h2 }) oq ot dU ?_)
  have ml := Heap.get?_push_of_some { cls := .type "dict_itemiterator", data := .fields #[.none, .bool false, .ref d, .int 0 0, .int es.size 0, .int ep 0, .none, .none] } kc
  refine wpAny_bind (wpAny_holding (kdx_hint (let ⟨o, ho, hc, _⟩ := oq; ⟨o, Heap.get?_push_of_some _ ho, hc⟩) ?_))
  refine wpAny_ite_split (fun _ => ?_) (fun _ => wpAny_pure ⟨plainId_quiet PySem.F.plain_extend_loop _, key _ _ _ (fun b o _ e => e) ml⟩)
  refine wpAny_bind (wpAny_rule ?_)
  refine wpAny_bind ?_
  show wpAny _ _ (updateSeq S (·.push .none) >>= fun _ => updateSeq S (·.pop)) _ _ _
  refine wpAny_bind (wpAny_updateSeq ml rfl ?_)
  have kc := Heap.get?_update_self (Obj.mapSeq (·.push Value.none)) ml rfl
  refine wpAny_updateSeq (hz := by seq_fits) kc rfl ?_
  have HT := Heap.get?_update_self (Obj.mapSeq (·.pop)) kc rfl
  refine wpAny_pure ⟨plainId_quiet PySem.F.plain_extend_loop _, key _ _ _ (fun b o hb e => ?_) HT⟩
  exact (Heap.get?_update_other _ _ (Ne.symm hb)).trans ((Heap.get?_update_other _ _ (Ne.symm hb)).trans e)
theorem qG {E:Value->Shared->Prop}{r d:Addr}{Q:Value->Shared->Prop}(hh:A.handled=none) (hv:s.heap.IsItemsView r d) (ho:s.heap.get? d=some od) (dU:od.data=.dict es ep) (hn:es.size<=sizeLine)
  (hQ:∀ h' tk aA c as,(∀ b o,s.heap.get? b=some o->h'.get? b=some o)->h'.get? s.heap.objs.size=some {cls:=.type "list",dict:=none,data:=.seq aA c,slots:=#[]}->as.length=es.size->tN es.toList s.heap.objs.size h' as->
   aA.toList=as.map Value.ref->Q (.ref s.heap.objs.size) {s with heap:=h',toks:=tk}):
  wpAny (model prog w) A (call (.type "list") [.ref r]) Q E s:=by
 refine callType_codes (Q₁:=fun obj bF=>obj=.ref s.heap.objs.size/\bF={s with heap:=s.heap.push {cls:=.type "list",data:=.seq #[]}}) PySem.F.called_list (PySem.F.typeCall_list_1 _) PySem.F.entry_list_init
  (code_list_new _ ⟨rfl,rfl⟩) fun obj bF h₁=>?_
 obtain ⟨rfl,rfl⟩:=h₁
 have hS:(s.heap.push {cls:=.type "list",data:=.seq #[]}).get? s.heap.objs.size=some {cls:=.type "list",data:=.seq #[]}:=Heap.get?_push_size _ rfl
 have hr:r < s.heap.objs.size:=let ⟨_,ho,_⟩:=hv;Heap.lt_size ho
 have hd:d < s.heap.objs.size:=Heap.lt_size ho
 refine ⟨⟨_,hS,rfl⟩,PySem.F.args_list_init_2 _ _,qF (A:=A.in1) hh (let ⟨o,ho,x⟩:=hv;⟨o,Heap.get?_push_of_some _ ho,x⟩) (Heap.get?_push_of_some _ ho) dU _ (Nat.ne_of_gt hr) (Nat.ne_of_lt hd) hS (fun h' tk aA c as hk vI hl hG hZ=>?_) hn⟩
 exact ⟨rfl,hQ h' tk aA c as (fun b o e=>hk b o (Nat.ne_of_lt (Heap.lt_size e)) (Heap.get?_push_of_some _ e)) vI hl hG hZ⟩
end
noncomputable def fL (tl:Mm) (xs:Array Value) (L:KV):Prop:=xs.size=L.length/\∀ (j:Nat) (x:Int×Int),L[j]?=some x->∃ a t u,xs[j]?=some (.ref a)/\(a,de (.int x.1 t) (.int x.2 u))∈tl
noncomputable def aB (E:En) (h:Heap) (xs:Array Value) (L:KV):Prop:=xs.size=L.length/\∀ (j:Nat) (x:Int×Int),L[j]?=some x->∃ a t u,xs[j]?=some (.ref a)/\h.get? a=some (de (.int x.1 t) (.int x.2 u))/\(gL a E.mu=true∨E.T.get a=none)
theorem aB.nil (E:En) (h:Heap):aB E h #[] []:=⟨rfl,fun j x e=>by simp at e⟩
theorem ke (m:Mm) (x:Addr×Obj) (tl:Mm):b8 (d7 m x) tl=b8 m (x::tl):=by
 induction m with
 | nil=>rfl
 | cons y m ih=>exact congrArg (y::·) ih
theorem fc (m:Mm):b8 m []=m:=by
 induction m with
 | nil=>rfl
 | cons y m ih=>exact congrArg (y::·) ih
theorem iK {tl:Mm}{x:Addr×Obj}(h:x∈tl):∃ i,ad tl i=some x:=by
 induction tl with
 | nil=>cases h
 | cons y tl ih=>
  rcases List.mem_cons.mp h with rfl | h
  ·exact ⟨0,rfl⟩
  ·obtain ⟨i,e⟩:=ih h
   exact ⟨i+1,e⟩
section
variable {E:En}{d:Drawn}{os:OsState}{h₀:Heap}{Y:Nat}
theorem ag.more {h:Heap}{n:Nat}:∀ {tl m:Mm}{lo:Nat},ag E h₀ Y m n h->(∀ i a o,ad m i=some (a,o)->a<=lo)->(tl.map (·.1)).Pairwise (· < ·)->(∀ p∈tl,lo < p.1/\h.get? p.1=some p.2/\h₀.objs.size<=p.1/\E.T.get p.1=none)->ag E h₀ Y (b8 m tl) n h
 | [],m,lo,r,_,_,_=>by rw [fc];exact r
 | x::tl,m,lo,r,hm,hp,hx=>by
  rw [<- ke]
  obtain ⟨h1,h2,h3,h4⟩:=hx x (List.mem_cons_self ..)
  rw [List.map_cons,List.pairwise_cons] at hp
  refine ag.more (lo:=x.1) (r.know h2 h3 (fun i o' q=>absurd (hm i _ _ q) (Nat.not_le.mpr h1)) h4) (fun i a o q=>?_) hp.2 fun p Cb=>?_
  ·rw [bf] at q
   split at q
   ·cases q;exact Nat.le_refl _
   ·exact Nat.le_trans (hm i a o q) (Nat.le_of_lt h1)
  ·obtain ⟨_,g2,g3,g4⟩:=hx p (List.mem_cons_of_mem _ Cb)
   exact ⟨hp.1 _ (List.mem_map_of_mem Cb),g2,g3,g4⟩
theorem ag.tail {m tl:Mm}{n:Nat}{h:Heap}(r:ag E h₀ Y (b8 m tl) n h) {x:Addr×Obj}(hx:x∈tl):h.get? x.1=some x.2/\(gL x.1 E.mu=true∨E.T.get x.1=none):=by
 obtain ⟨i,e⟩:=iK hx
 have e2:ad (b8 m tl) (aE m+i)=some x:=by
  rw [dI,if_neg (by lia)]
  have:aE m+i - aE m=i:=by lia
  rw [this];exact e
 exact ⟨r.own _ x.1 x.2 e2,r.off _ x.1 x.2 e2⟩
theorem fL.heap {m tl:Mm}{n:Nat}{h:Heap}{xs:Array Value}{L:KV}(p:fL tl xs L) (r:ag E h₀ Y (b8 m tl) n h):aB E h xs L:=by
 refine ⟨p.1,fun j x e=>?_⟩
 obtain ⟨a,t,u,e1,e2⟩:=p.2 j x e
 exact ⟨a,t,u,e1,r.tail e2⟩
structure iV (L:KV) where
 xs:Array Value
 e:Nat
 tl:Mm
 hP:fL tl xs L
 j:Nat
 tk:Nat
noncomputable def iV.df (L:KV):iV L:=⟨(L.map fun _=>Value.ref 0).toArray,0,L.map fun x=>(0,de (.int x.1 0) (.int x.2 0)),⟨by simp,fun j x e=>⟨0,0,0,by simp [e],List.mem_map.mpr ⟨x,List.mem_of_getElem? e,rfl⟩⟩⟩,0,0⟩
noncomputable def EE (b:Bool) (tl:Mm):Mm:=@Bool.rec (fun _=>Mm) [] tl b
noncomputable def iL (b:Bool) (j0 vi di v dd:Nat) (od:Obj) (es:Array DictEntry) (ep:Nat) (dU:od.data=.dict es ep) {L:KV}(hL:Z es L) (hn:L.length<=1000):aL E d os:=
 aL.leaf (iV L) (iV.df L) (fun q=>(mh q.code,ad q.m vi,ad q.m di,qy q,q.n)) (some (.type "list",[.ref v]),some (v,⟨.type "dict_items",none,.fields #[.ref dd],#[]⟩),some (dd,od),(none,none,none,true),j0+1109)
  (fun x q=>.ref (j0+1109)) (fun x q=>b8 q.m ((j0+1109,ac x.xs x.e)::EE b x.tl)) (fun x _=>x.j+1109) (fun x _=>x.tk) (fun _=>True) (by
  intro h₀ Y q Q h g e' hc hg eq kk
  obtain ⟨e1,e'⟩:=Prod.ext_iff.mp e'
  obtain ⟨e2,e'⟩:=Prod.ext_iff.mp e'
  obtain ⟨e3,e'⟩:=Prod.ext_iff.mp e'
  obtain ⟨e4,e5⟩:=Prod.ext_iff.mp e'
  dsimp only at e1 e2 e3 e4 e5
  obtain ⟨f',pos,q4,q5,q6⟩:=j8 e1
  obtain ⟨c1,l',qA⟩:=mi e4
  rw [hc.trans q4] at qA
  obtain ⟨x,rfl,Al⟩:∃ x,pos=[x]/\bJ x=.ref v:=by
   rcases pos with _ | ⟨x,_ | ⟨y,pos⟩⟩
   ·cases q6
   ·injection q6 with q6;exact ⟨x,rfl,q6⟩
   ·injection q6 with _ q6;cases q6
  obtain rfl:=cx Al
  have hf:f'=.type "list":=by
   cases f'<;>first | exact q5 | cases q5
  subst hf
  refine ji ?_
  refine jj qA ?_ rfl
  have aG:h.objs.size=j0+1109:=eq.size.trans e5
  refine qG rfl ⟨_,eq.own _ _ _ e2,rfl,rfl⟩ (eq.own _ _ _ e3) dU (by rw [hL.size];exact dz hn) fun h' tk aA c as hk hS hl hG hZ=>?_
  intro hs
  have J1:(⟨h,g,d,q.tk,os⟩:Shared).heap.objs.size=j0+1109:=aG
  rw [J1] at hS hG
  rw [aG]
  have M3:h'.objs.size=(h'.objs.size - 1109)+1109:=by have:h.objs.size<=h'.objs.size:=hs;lia
  -- the tuples
  have rZ:∀ (j:Nat) (a:Addr),as[j]?=some a->∃ (x:Int×Int) (t u:Tok),L[j]?=some x/\h'.get? a=some (de (.int x.1 t) (.int x.2 u)):=by
   intro j a ha
   obtain ⟨e,J2,um⟩:=hG.pairs j a ha
   have hj:j < L.length:=by
    have h1:=(List.getElem?_eq_some_iff.mp J2).1
    have h2:=hL.size
    simp at h1;lia
   obtain ⟨x,hx⟩:∃ x,L[j]?=some x:=⟨L[j],List.getElem?_eq_getElem hj⟩
   obtain ⟨t,u,hu⟩:=hL.at hx
   have:e=⟨hashInt x.1,.int x.1 t,.int x.2 u⟩:=by
    have Gd:es[j]?=some e:=by simpa using J2
    rw [hu] at Gd;exact (Option.some.inj Gd).symm
   rw [this] at um
   exact ⟨x,t,u,hx,um⟩
  have vJ:∀ a∈as,∃ o,h'.get? a=some o:=by
   intro a ha
   obtain ⟨j,hj⟩:=List.mem_iff_getElem?.mp ha
   obtain ⟨_,_,_,_,e⟩:=rZ j a hj
   exact ⟨_,e⟩
  have M4:∃ tl:Mm,tl.map (·.1)=as/\∀ p∈tl,h'.get? p.1=some p.2:=by
   clear rZ hl hG hZ
   induction as with
   | nil=>exact ⟨[],rfl,fun _ h=>nomatch h⟩
   | cons a as ih=>
    obtain ⟨tl,h1,h2⟩:=ih fun b hb=>vJ b (List.mem_cons_of_mem _ hb)
    obtain ⟨o,ho⟩:=vJ a (List.mem_cons_self ..)
    refine ⟨(a,o)::tl,by rw [List.map_cons,h1],fun p hp=>?_⟩
    rcases List.mem_cons.mp hp with rfl | hp
    ·exact ho
    ·exact h2 p hp
  obtain ⟨tl,t1,t2⟩:=M4
  have hq:q.n<=h'.objs.size:=by rw [<- eq.size];exact hs
  have r0:ag E h₀ Y q.m h'.objs.size h':=eq.grow rfl hq hk
  have low:∀ i a o,ad q.m i=some (a,o)->a < j0+1109:=fun i a o e=>by have:=eq.lt e;rw [e5] at this;exact this
  have r1:ag E h₀ Y (d7 q.m (j0+1109,ac aA c)) h'.objs.size h':=eq.new r0 hS (Nat.le_of_eq e5)
  have hP:fL tl aA L:=by
   refine ⟨by rw [<- Array.length_toList,hZ,List.length_map,hl,hL.size],fun j x e=>?_⟩
   have hj:j < as.length:=by rw [hl,hL.size];exact (List.getElem?_eq_some_iff.mp e).1
   obtain ⟨x',t,u,J3,M5⟩:=rZ j as[j] (List.getElem?_eq_getElem hj)
   rw [e] at J3
   cases J3
   refine ⟨as[j],t,u,?_,?_⟩
   ·rw [<- Array.getElem?_toList,hZ,List.getElem?_map,List.getElem?_eq_getElem hj];rfl
   ·have hm:as[j]∈tl.map (·.1):=t1▸List.getElem_mem hj
    obtain ⟨p,hp,e3⟩:=List.mem_map.mp hm
    have:=t2 p hp
    rw [e3,M5] at this
    obtain ⟨pa,po⟩:=p
    have e3:pa=as[j]:=e3
    cases this
    rw [<- e3];exact hp
  refine kk ⟨aA,c,tl,hP,h'.objs.size - 1109,tk⟩ trivial h' g hg ?_
  show ag E h₀ Y (b8 q.m ((j0+1109,ac aA c)::EE b tl)) (h'.objs.size - 1109+1109) h'
  rw [<- M3,<- ke]
  cases b with
  | false=>exact (fc _).symm▸r1
  | true=>
   refine r1.more (lo:=j0+1109) (fun i a o e=>?_) (t1.symm▸hG.rise) fun p hp=>?_
   ·rw [bf] at e
    split at e
    ·cases e;exact Nat.le_refl _
    ·exact Nat.le_of_lt (low i a o e)
   ·have sf:j0+1109 < p.1:=hG.above p.1 (t1▸List.mem_map_of_mem hp)
    have BY:=eq.start
    rw [e5] at BY
    exact ⟨sf,t2 p hp,by lia,eq.lowT p.1 (by rw [e5];lia)⟩)
end
section
variable {a b ce ch da db e0 fp i it j l me rp t tk un:Nat}{b1 b2 pl:Bool}{d:Drawn}{f1:FL}{f2:FN}{fs rs:Array DictEntry}{p1 p2 p3:Pos}{r:KV}{w:World}{xs:Array Value}
noncomputable abbrev Ag:=fun a b c d e f=>ax a (b+1109) (ab (W2 c d e) f)
noncomputable abbrev A8:=fun a b c=>((a+1109,⟨(.type "list"),none,.seq b c,#[]⟩):Addr×Obj)
noncomputable abbrev AR:=fun a b c=>((a+1109,ac b c):Addr×Obj)
noncomputable abbrev AY:=fun a b c d e f g h i j k=>bB (W2 a b c) d e f g h i j k
noncomputable abbrev Bd:=fun a b=>ba (a+1109) b
noncomputable abbrev B0:=fun a=>az a 1107 5 2
theorem tP {kf:Nat->Nat}{os:OsState}{q3 q6:Value}{F:KV}(hx:xs[i]?=some (Aa b)) (hr:Z rs r) (hF:Z fs F) (hz:r.length+F.length<=sizeLine) (b9:∀ x∈F.foldl bS r,x.2>0) (bD:F.foldl bS r≠[]):
  Qc b1 b2 pl d os fun b1 b2 pl=>⟨Ae w b1 b2,7,⟨(Ag (B0 (W2 w b1 b2)) it w b1 b2 l),none,none,[(fl f1,p1),(fn f2,p2),(CC,p3)],none⟩,den (Ag (B0 (W2 w b1 b2)) it w b1 b2 l),[(l+1109,AY w b1 b2 pl t me un kf q3 (t3 q6 (Aa a) (Aa ch)) e0),AR ch xs ce,(it+1109,Bd ch i),Aj da,Ac a da rs rp,Aj db,Ac b db fs fp],j+1109,tk,.u (cX 2 1 (it+1109) (ch+1109) i ce xs (Aa b) hx)<| .c (F8 a b da db rp fp rs fs hr hF hz b9 bD [3,4,5,6] (by decide) rfl) fun x2=>.e (.e (.again (Ag (B0 (W2 w b1 b2)) it w b1 b2 l)) [(l+1109,AY w b1 b2 pl t me un (uf kf 8 tk) q3 (t4 q6 (Aa a) (Aa ch) (Aa b)) (e0+1)),A8 ch xs ce,(it+1109,⟨(.type "list_iterator"),none,.fields #[(Aa ch),(.int (↑(i+1)) 0)],#[]⟩),Aj da,(a+1109,AP da (cb.es x2) (x2.ep)),Aj db,Ac b db fs fp] ((x2.j)+1109) ((x2.5)+1))⟩:=b7 100 [3,0,3,1] [(Hx 0x1100005000051111),[1,1]] [] (by kernel_rfl)
theorem tQ {kf:Nat->Nat}{os:OsState}{q3 q6 q9 q10:Value}{F:KV}(hx:xs[i]?=some (Aa b)) (hr:Z rs r) (hF:Z fs F) (hz:r.length+F.length<=sizeLine) (b9:∀ x∈F.foldl bS r,x.2>0) (bD:F.foldl bS r≠[]):
  Qc b1 b2 pl d os fun b1 b2 pl=>⟨Ae w b1 b2,7,⟨(Ag (B0 (W2 w b1 b2)) it w b1 b2 l),none,none,[(fl f1,p1),(fn f2,p2),(CC,p3)],none⟩,den (Ag (B0 (W2 w b1 b2)) it w b1 b2 l),[(l+1109,AY w b1 b2 pl t me un kf q3 (t5 q6 (Aa a) (Aa ch) q9 q10) e0),AR ch xs ce,(it+1109,Bd ch i),Aj da,Ac a da rs rp,Aj db,Ac b db fs fp],j+1109,tk,.u (cX 2 1 (it+1109) (ch+1109) i ce xs (Aa b) hx)<| .c (F8 a b da db rp fp rs fs hr hF hz b9 bD [3,4,5,6] (by decide) rfl) fun x2=>.e (.e (.again (Ag (B0 (W2 w b1 b2)) it w b1 b2 l)) [(l+1109,AY w b1 b2 pl t me un kf q3 (t5 q6 (Aa a) (Aa ch) (Aa b) q10) e0),A8 ch xs ce,(it+1109,⟨(.type "list_iterator"),none,.fields #[(Aa ch),(.int (↑(i+1)) 0)],#[]⟩),Aj da,(a+1109,AP da (cb.es x2) (x2.ep)),Aj db,Ac b db fs fp] ((x2.j)+1109) ((x2.5)+1))⟩:=b7 100 [3,0,3,1] [(Hx 0x1100005000051111),[1,1]] [] (by kernel_rfl)
noncomputable abbrev AG:=fun a b c d=>ax a (b+1109) (ab c d)
noncomputable abbrev BM:=fun a b=>ac a b
theorem Ge {os:OsState}(hx:xs.size<=i):
  Qw w b1 b2 d os fun W=>⟨E2 W,2,⟨(AG (B0 W) it W l),none,none,[(fl f1,p1),(fn f2,p2),(CC,p3)],none⟩,den (AG (B0 W) it W l),[AR ch xs ce,(it+1109,Bd ch i)],j+1109,tk,.c (fU 1 0 (it+1109) (ch+1109) i ce xs hx) fun x1=>.e (.e (.done .next) [(ch+1109,(BM xs ce)),(it+1109,(x1))] (j+1111) tk)⟩:=bU 69 [2,0,2,1] [[4,0]] [] (by kernel_rfl)
end
section
variable {L:KV}{a b ce ch da db e0 ep fp i it j l me oo t tk un uu:Nat}{b1 b2 pl:Bool}{d:Drawn}{es fs:Array DictEntry}{f1:FL}{f2:FN}{p1 p2 p3:Pos}{w:World}{xs:Array Value}
noncomputable abbrev Bj:=fun a b c d e=>t5 (Aa a) (Aa b) (Aa c) d e
noncomputable abbrev B4:=fun a b c d e=>Ag (az (W2 a b c) 1107 5 4) d a b c e
theorem fF {kf:Nat->Nat}{os:OsState}{q3 q9:Value}{F:KV}(hx:xs[i]?=some (Aa b)) (hL:Z es L) (hF:Z fs F) (hz:L.length<=sizeLine):
  Qc b1 b2 pl d os fun b1 b2 pl=>⟨Ae w b1 b2,7,⟨(B4 w b1 b2 it l),none,none,[(fl f1,p1),(fn f2,p2),(CC,p3)],none⟩,den (B4 w b1 b2 it l),[(l+1109,AY w b1 b2 pl t me un kf q3 (Bj a uu ch q9 (Aa oo)) e0),AR oo xs ce,(it+1109,Bd oo i),Aj da,Ac a da es ep,Aj db,Ac b db fs fp],j+1109,tk,.u (cX 2 1 (it+1109) (oo+1109) i ce xs (Aa b) hx)<| .c (HM j a b da db ep fp es fs hL hF hz [3,4,5,6] (by decide) rfl) fun x2=>.e (.e (.again (B4 w b1 b2 it l)) [(l+1109,AY w b1 b2 pl t me un kf q3 (t5 (.ref (j+1111)) (Aa uu) (Aa ch) (Aa b) (Aa oo)) e0),A8 oo xs ce,(it+1109,⟨(.type "list_iterator"),none,.fields #[(Aa oo),(.int (↑(i+1)) 0)],#[]⟩),Aj da,Ac a da es ep,Aj db,Ac b db fs fp,(j+1110,(av)),(j+1111,(ah (j+1110) (cb.es x2) (x2.ep)))] ((x2.j)+1109) ((x2.5)+1))⟩:=b7 101 [3,0,3,1] [(Hx 0x11000050000751111),[1,1]] [7,8] (by kernel_rfl)
theorem tR {kf:Nat->Nat}{os:OsState}{q3 q9:Value}(hx:xs[i]?=some (Aa a)) (hL:Z es L) (hz:L.length<=sizeLine):
  Qc b1 b2 pl d os fun b1 b2 pl=>⟨Ae w b1 b2,5,⟨(B4 w b1 b2 it l),none,none,[(fl f1,p1),(fn f2,p2),(CC,p3)],none⟩,den (B4 w b1 b2 it l),[(l+1109,AY w b1 b2 pl t me un kf q3 (Bj a uu ch q9 (Aa oo)) e0),AR oo xs ce,(it+1109,Bd oo i),Aj da,Ac a da es ep],j+1109,tk,.u (cX 2 1 (it+1109) (oo+1109) i ce xs (Aa a) hx)<| .c (EC j a da ep es hL hz [3,4] (by decide) rfl) fun x2=>.e (.e (.again (B4 w b1 b2 it l)) [(l+1109,AY w b1 b2 pl t me un kf q3 (t5 (.ref (j+1111)) (Aa uu) (Aa ch) (Aa a) (Aa oo)) e0),A8 oo xs ce,(it+1109,⟨(.type "list_iterator"),none,.fields #[(Aa oo),(.int (↑(i+1)) 0)],#[]⟩),Aj da,Ac a da es ep,(j+1110,(av)),(j+1111,(ah (j+1110) (cb.es x2) (x2.ep)))] ((x2.j)+1109) ((x2.5)+1))⟩:=b7 101 [3,0,3,1] [(Hx 0x11000050000551111),[1,1]] [5,6] (by kernel_rfl)
theorem J4 {os:OsState}(hx:xs.size<=i):
  Qw w b1 b2 d os fun W=>⟨E2 W,2,⟨(AG (az W 1107 5 4) it W l),none,none,[(fl f1,p1),(fn f2,p2),(CC,p3)],none⟩,den (AG (az W 1107 5 4) it W l),[AR ch xs ce,(it+1109,Bd ch i)],j+1109,tk,.c (fU 1 0 (it+1109) (ch+1109) i ce xs hx) fun x1=>.e (.e (.done .next) [(ch+1109,(BM xs ce)),(it+1109,(x1))] (j+1111) tk)⟩:=bU 69 [2,0,2,1] [[4,0]] [] (by kernel_rfl)
end
structure BG where
 d0:Nat
 d1:Nat
 d2:Nat
 d3:Nat
 b0:Nat
 b1:Nat
 b2:Nat
 b3:Nat
 e0:Array DictEntry
 e1:Array DictEntry
 e2:Array DictEntry
 e3:Array DictEntry
 p0:Nat
 p1:Nat
 p2:Nat
 p3:Nat
 F0:KV
 F1:KV
 F2:KV
 F3:KV
 h0:Z e0 F0
 h1:Z e1 F1
 h2:Z e2 F2
 h3:Z e3 F3
noncomputable def BG.b (B:BG) (k:Nat):Nat:=match k with | 0=>B.b0 | 1=>B.b1 | 2=>B.b2 | _=>B.b3
noncomputable def BG.F (B:BG) (k:Nat):KV:=match k with | 0=>B.F0 | 1=>B.F1 | 2=>B.F2 | _=>B.F3
noncomputable abbrev BG.m (B:BG):Mm:=[(B.d0+1109,av),(B.b0+1109,ah (B.d0+1109) B.e0 B.p0),(B.d1+1109,av),(B.b1+1109,ah (B.d1+1109) B.e1 B.p1),(B.d2+1109,av),(B.b2+1109,ah (B.d2+1109) B.e2 B.p2),(B.d3+1109,av),(B.b3+1109,ah (B.d3+1109) B.e3 B.p3)]
noncomputable def BG.refs (B:BG) (cs:List Nat):Array Value:=(cs.map fun k=>Value.ref (B.b k+1109)).toArray
theorem BG.refs_at (B:BG) {cs:List Nat}{i k:Nat}{ay:List Nat}(hi:cs.drop i=k::ay):(B.refs cs)[i]?=some (.ref (B.b k+1109))/\cs.drop (i+1)=ay:=by
 have hc:cs[i]?=some k:=by
  have:=congrArg (fun l=>l[0]?) hi
  simpa using this
 have bv:cs.drop (i+1)=ay:=by
  have:=congrArg List.tail hi
  simpa using this
 exact ⟨by simp [BG.refs,hc],bv⟩
theorem BG.refs_end (B:BG) {cs:List Nat}{i:Nat}(hi:cs.drop i=[]):(B.refs cs).size<=i:=by
 have:=congrArg List.length hi
 simp at this
 simp [BG.refs];lia
section
variable {W:World}{pl:Bool}{t me un:Nat}{ns:Obj}
noncomputable def tA (f:Bool) (m u c b o:Value):List (Str×Value):=@Bool.rec (fun _=>List (Str×Value)) (t5 m u c b o) (t2 m u) f
noncomputable def tB (f:Bool) (m u c b o:Value):List (Str×Value):=@Bool.rec (fun _=>List (Str×Value)) (t5 m u c b o) (t3 m u c) f
noncomputable def tC (f:Bool) (m u c b o:Value):List (Str×Value):=@Bool.rec (fun _=>List (Str×Value)) (t5 m u c b o) (t4 m u c b) f
end
section
variable {d:Drawn}{os:OsState}{w:World}{b1 b2:Bool}{t me un l a da ch it ce:Nat}{pl:Bool}{q6 q10:Value}{f1:FL}{f2:FN}{p1 p2 p3:Pos}{h₀:Heap}{Y:Nat}{R:Result->Shared->Prop}
noncomputable abbrev HU (w:World) (it l:Nat):Code:=ax (az w 1107 5 2) (it+1109) (ab w l)
noncomputable abbrev vK (l ch it da a:Nat) (B:BG) (xs:Array Value) (ce:Nat) (ns ito:Obj) (rs:Array DictEntry) (rp:Nat):Mm:=(l+1109,ns)::(ch+1109,ac xs ce)::(it+1109,ito)::(da+1109,av)::(a+1109,ah (da+1109) rs rp)::B.m
noncomputable def fx (B:BG) (U:KV) (k:Nat):KV:=(B.F k).foldl bS U
noncomputable def kg (B:BG) (P:KV->Prop):Prop:=∀ U k,P U->k < 4->P (fx B U k)/\(∀ x∈fx B U k,x.2>0)/\fx B U k≠[]/\U.length+(B.F k).length<=sizeLine
theorem Cc (f:Bool) {B:BG}{P:KV->Prop}(hP:kg B P) (hk:Y<=13) {cs:List Nat}(c7:∀ k∈cs,k < 4):
  ∀ (ay:List Nat) (i:Nat),cs.drop i=ay->(f=true->ay.length=1)->∀ (U:KV) (rs:Array DictEntry) (rp:Nat) (ns:Obj) (q9:Value) (j tk:Nat) (h:Heap) (g:Array GenState) (p:Pos),P U->Z rs U->LN (W2 w b1 b2) pl t me un (tB f q6 (Aa a) (Aa ch) q9 q10) ns->AllBare g->ag (Ae w b1 b2) h₀ Y (vK l ch it da a B (B.refs cs) ce ns (Bd ch i) rs rp) (j+1109) h->
  (∀ U' rs rp ns q9 ito j tk h g,U'=ay.foldl (fx B) U->P U'->Z rs U'->LN (W2 w b1 b2) pl t me un (tC f q6 (Aa a) (Aa ch) q9 q10) ns->AllBare g->ag (Ae w b1 b2) h₀ Y (vK l ch it da a B (B.refs cs) ce ns ito rs rp) (j+1109) h->R (.ok .next) ⟨h,g,d,tk,os⟩)->
  wpCode (Bf w b1 b2) ⟨HU (W2 w b1 b2) it l,none,none,[(fl f1,p1),(fn f2,p2),(CC,p3)],none⟩ R p ⟨h,g,d,tk,os⟩:=by
 intro ay
 have nx:∀ (i:Nat) (rs:Array DictEntry) (rp:Nat) (ns:Obj) (j tk:Nat) (h:Heap) (g:Array GenState) (p:Pos),cs.drop i=[]->AllBare g->ag (E2 (W2 w b1 b2)) h₀ Y (vK l ch it da a B (B.refs cs) ce ns (ba (ch+1109) i) rs rp) (j+1109) h->(∀ ito j tk h g,AllBare g->ag (E2 (W2 w b1 b2)) h₀ Y (vK l ch it da a B (B.refs cs) ce ns ito rs rp) (j+1109) h->R (.ok .next) ⟨h,g,d,tk,os⟩)->wpCode (Mo (E2 (W2 w b1 b2))) ⟨HU (W2 w b1 b2) it l,none,none,[(fl f1,p1),(fn f2,p2),(CC,p3)],none⟩ R p ⟨h,g,d,tk,os⟩:=by
  intro i rs rp ns j tk h g p hi hg al fin
  refine aD (E:=E2 (W2 w b1 b2)) hg al ?_
  refine am.sub [1,2] rfl (by decide) rfl fun h1 aj=>?_
  refine Ge (B.refs_end hi) p (Nat.le_refl _) fun x _ p2 h2 g2 ao aa=>?_
  exact fin _ (j+2) _ h2 g2 ao (aj.join' [1,2] (by decide) rfl aa rfl)
 cases f with
 | true=>
  intro i hi hl U rs rp ns q9 j tk h g p hU hr aq hg al fin
  obtain ⟨k,rfl⟩:∃ k,ay=[k]:=List.length_eq_one_iff.mp (hl rfl)
  obtain ⟨hx,bv⟩:=B.refs_at hi
  have sh:k < 4:=c7 k (List.mem_of_mem_drop (hi▸List.mem_cons_self ..))
  obtain ⟨dZ,b9,bD,hz⟩:=hP U k hU sh
  induction aq with | @i kf q3 e0=>?_
  refine aD (E:=E2 (W2 w b1 b2)) hg al ?_
  rcases k with _ | _ | _ | _ | k
  ·refine am.sub [0,1,2,3,4,5,6] rfl (by decide) rfl fun h1 aj=>?_
   refine tP (b:=B.b0) (db:=B.d0) hx hr B.h0 hz b9 bD p (Nat.le_refl _) fun x _ p2 h2 g2 ao aa=>?_
   exact nx (i+1) _ _ _ _ _ h2 g2 p2 bv ao (aj.join' [0,1,2,3,4,5,6] (by decide) rfl aa rfl) fun ito j tk h g hg al=>fin _ _ _ _ _ _ _ _ _ _ rfl dZ x.hT LN.i hg al
  ·refine am.sub [0,1,2,3,4,7,8] rfl (by decide) rfl fun h1 aj=>?_
   refine tP (b:=B.b1) (db:=B.d1) hx hr B.h1 hz b9 bD p (Nat.le_refl _) fun x _ p2 h2 g2 ao aa=>?_
   exact nx (i+1) _ _ _ _ _ h2 g2 p2 bv ao (aj.join' [0,1,2,3,4,7,8] (by decide) rfl aa rfl) fun ito j tk h g hg al=>fin _ _ _ _ _ _ _ _ _ _ rfl dZ x.hT LN.i hg al
  ·refine am.sub [0,1,2,3,4,9,10] rfl (by decide) rfl fun h1 aj=>?_
   refine tP (b:=B.b2) (db:=B.d2) hx hr B.h2 hz b9 bD p (Nat.le_refl _) fun x _ p2 h2 g2 ao aa=>?_
   exact nx (i+1) _ _ _ _ _ h2 g2 p2 bv ao (aj.join' [0,1,2,3,4,9,10] (by decide) rfl aa rfl) fun ito j tk h g hg al=>fin _ _ _ _ _ _ _ _ _ _ rfl dZ x.hT LN.i hg al
  ·refine am.sub [0,1,2,3,4,11,12] rfl (by decide) rfl fun h1 aj=>?_
   refine tP (b:=B.b3) (db:=B.d3) hx hr B.h3 hz b9 bD p (Nat.le_refl _) fun x _ p2 h2 g2 ao aa=>?_
   exact nx (i+1) _ _ _ _ _ h2 g2 p2 bv ao (aj.join' [0,1,2,3,4,11,12] (by decide) rfl aa rfl) fun ito j tk h g hg al=>fin _ _ _ _ _ _ _ _ _ _ rfl dZ x.hT LN.i hg al
  ·lia
 | false=>
  clear nx
  induction ay with
  | nil=>
   intro i hi hl U rs rp ns q9 j tk h g p hU hr aq hg al fin
   refine aD (E:=E2 (W2 w b1 b2)) hg al ?_
   refine am.sub [1,2] rfl (by decide) rfl fun h1 aj=>?_
   refine Ge (B.refs_end hi) p (Nat.le_refl _) fun x _ p2 h2 g2 ao aa=>?_
   exact fin _ _ _ _ _ _ (j+2) _ h2 g2 rfl hU hr aq ao (aj.join' [1,2] (by decide) rfl aa rfl)
  | cons k ay ih=>
   intro i hi hl U rs rp ns q9 j tk h g p hU hr aq hg al fin
   obtain ⟨hx,bv⟩:=B.refs_at hi
   have sh:k < 4:=c7 k (List.mem_of_mem_drop (hi▸List.mem_cons_self ..))
   obtain ⟨dZ,b9,bD,hz⟩:=hP U k hU sh
   induction aq with | @i kf q3 e0=>?_
   refine aD (E:=E2 (W2 w b1 b2)) hg al ?_
   rcases k with _ | _ | _ | _ | k
   ·refine am.sub [0,1,2,3,4,5,6] rfl (by decide) rfl fun h1 aj=>?_
    refine tQ (b:=B.b0) (db:=B.d0) hx hr B.h0 hz b9 bD p (Nat.le_refl _) fun x _ p2 h2 g2 ao aa=>?_
    exact ih (i+1) bv (fun h=>nomatch h) _ _ _ _ _ _ _ h2 g2 p2 dZ x.hT LN.i ao (aj.join' [0,1,2,3,4,5,6] (by decide) rfl aa rfl) fin
   ·refine am.sub [0,1,2,3,4,7,8] rfl (by decide) rfl fun h1 aj=>?_
    refine tQ (b:=B.b1) (db:=B.d1) hx hr B.h1 hz b9 bD p (Nat.le_refl _) fun x _ p2 h2 g2 ao aa=>?_
    exact ih (i+1) bv (fun h=>nomatch h) _ _ _ _ _ _ _ h2 g2 p2 dZ x.hT LN.i ao (aj.join' [0,1,2,3,4,7,8] (by decide) rfl aa rfl) fin
   ·refine am.sub [0,1,2,3,4,9,10] rfl (by decide) rfl fun h1 aj=>?_
    refine tQ (b:=B.b2) (db:=B.d2) hx hr B.h2 hz b9 bD p (Nat.le_refl _) fun x _ p2 h2 g2 ao aa=>?_
    exact ih (i+1) bv (fun h=>nomatch h) _ _ _ _ _ _ _ h2 g2 p2 dZ x.hT LN.i ao (aj.join' [0,1,2,3,4,9,10] (by decide) rfl aa rfl) fin
   ·refine am.sub [0,1,2,3,4,11,12] rfl (by decide) rfl fun h1 aj=>?_
    refine tQ (b:=B.b3) (db:=B.d3) hx hr B.h3 hz b9 bD p (Nat.le_refl _) fun x _ p2 h2 g2 ao aa=>?_
    exact ih (i+1) bv (fun h=>nomatch h) _ _ _ _ _ _ _ h2 g2 p2 dZ x.hT LN.i ao (aj.join' [0,1,2,3,4,11,12] (by decide) rfl aa rfl) fin
   ·lia
structure HV (P:Obj->Prop) (Q:KV->Prop) (U:KV) where
 ns:Obj
 hN:P ns
 es:Array DictEntry
 ep:Nat
 hT:Z es U
 hQ:Q U
 ito:Obj
 j:Nat
 tk:Nat
noncomputable def M6 (W:World) (pl:Bool) (t me un a ch:Nat) (f:Bool) (q6 q10:Value) (ns:Obj):Prop:=∃ q9,LN W pl t me un (tC f q6 (.ref (a+1109)) (.ref (ch+1109)) q9 q10) ns
noncomputable def J5 (t me un l a da ch it ce rp:Nat) (pl f:Bool) (q6 q9 q10:Value) (B:BG) (cs:List Nat) (rs:Array DictEntry) {P:KV->Prop}(hP:kg B P) (c7:∀ k∈cs,k < 4) (hf:f=true->cs.length=1) {U:KV}(hU:P U) (hT:Z rs U) (hQ:P (cs.foldl (fx B) U)) {ns:Obj}(aq:LN (W2 w b1 b2) pl t me un (tB f q6 (.ref (a+1109)) (.ref (ch+1109)) q9 q10) ns) (is:List Nat) (nd:is.Nodup) (hl:13=is.length):aL (E2 (W2 w b1 b2)) d os:=
 aL.sub (HV (M6 (W2 w b1 b2) pl t me un a ch f q6 q10) P (cs.foldl (fx B) U)) ⟨_,⟨.none,oh _⟩,_,0,bX _,hQ,av,0,0⟩ (HU (W2 w b1 b2) it l) [2,1] is (vK l ch it da a B (B.refs cs) ce ns (ba (ch+1109) 0) rs rp)
  nd hl (fun _=>.next) (fun x=>vK l ch it da a B (B.refs cs) ce x.ns x.ito x.es x.ep) (fun x=>x.j+1109) (fun x=>x.tk) (fun _=>True) (fun x=>by rw [<- hl];rfl) (by
  intro Γ h g p n tk Q aV hc hg hr k
  refine kx aV hc fun f1 f2 p1 p2 p3=>?_
  obtain ⟨j,rfl⟩:=dn (i:=0) hr rfl
  exact Cc f hP (hl▸Nat.le_refl _) c7 cs 0 rfl hf U rs rp ns q9 j tk h g p hU hT aq hg hr fun U' cf cS aQ EF Cd j' aF h' g' HW ou HX cq bQ bk=>by
   subst HW
   exact k ⟨aQ,⟨EF,cq⟩,cf,cS,HX,ou,Cd,j',aF⟩ trivial h' g' bQ bk)
end
section
variable {d:Drawn}{os:OsState}{w:World}{b1 b2:Bool}{t me un l uu ch oo it ce:Nat}{pl:Bool}{f1:FL}{f2:FN}{p1 p2 p3:Pos}{h₀:Heap}{Y:Nat}{R:Result->Shared->Prop}
noncomputable abbrev HY (w:World) (it l:Nat):Code:=ax (az w 1107 5 4) (it+1109) (ab w l)
noncomputable abbrev vL (l oo it:Nat) (B:BG) (xs:Array Value) (ce:Nat) (ns ito:Obj) (r:Mm):Mm:=(l+1109,ns)::(oo+1109,ac xs ce)::(it+1109,ito)::(B.d0+1109,av)::(B.b0+1109,ah (B.d0+1109) B.e0 B.p0)::(B.d1+1109,av)::(B.b1+1109,ah (B.d1+1109) B.e1 B.p1)::(B.d2+1109,av)::(B.b2+1109,ah (B.d2+1109) B.e2 B.p2)::(B.d3+1109,av)::(B.b3+1109,ah (B.d3+1109) B.e3 B.p3)::r
noncomputable def dM (B:BG) (L:KV) (k:Nat):KV:=L.foldl (eX (B.F k)) []
noncomputable def mq (B:BG) (P:KV->Prop):Prop:=∀ L k,P L->k < 4->P (dM B L k)/\L.length<=sizeLine
theorem ci {B:BG}{P:KV->Prop}(hP:mq B P) (hk:Y<=11) {cs:List Nat}(c7:∀ k∈cs,k < 4):
  ∀ (ay:List Nat) (i:Nat),cs.drop i=ay->∀ (U:KV) (rs:Array DictEntry) (rp a da:Nat) (ns:Obj) (q9:Value) (j tk:Nat) (h:Heap) (g:Array GenState) (p:Pos),P U->Z rs U->LN (W2 w b1 b2) pl t me un (Bj a uu ch q9 (Aa oo)) ns->AllBare g->ag (Ae w b1 b2) h₀ Y (vL l oo it B (B.refs cs) ce ns (Bd oo i) [Aj da,Ac a da rs rp]) (j+1109) h->
  (∀ U' rs rp a da ns q9 ito j tk h g,U'=ay.foldl (dM B) U->P U'->Z rs U'->LN (W2 w b1 b2) pl t me un (Bj a uu ch q9 (Aa oo)) ns->AllBare g->ag (Ae w b1 b2) h₀ Y (vL l oo it B (B.refs cs) ce ns ito [Aj da,Ac a da rs rp]) (j+1109) h->R (.ok .next) ⟨h,g,d,tk,os⟩)->
  wpCode (Bf w b1 b2) ⟨HY (W2 w b1 b2) it l,none,none,[(fl f1,p1),(fn f2,p2),(CC,p3)],none⟩ R p ⟨h,g,d,tk,os⟩:=by
 intro ay
 induction ay with
 | nil=>
  intro i hi U rs rp a da ns q9 j tk h g p hU hr aq hg al fin
  refine aD (E:=E2 (W2 w b1 b2)) hg al ?_
  refine am.sub [1,2] rfl (by decide) rfl fun h1 aj=>?_
  refine J4 (B.refs_end hi) p (Nat.le_refl _) fun x _ p2 h2 g2 ao aa=>?_
  exact fin _ _ _ _ _ _ _ _ (j+2) _ h2 g2 rfl hU hr aq ao (aj.join' [1,2] (by decide) rfl aa rfl)
 | cons k ay ih=>
  intro i hi U rs rp a da ns q9 j tk h g p hU hr aq hg al fin
  obtain ⟨hx,bv⟩:=B.refs_at hi
  have sh:k < 4:=c7 k (List.mem_of_mem_drop (hi▸List.mem_cons_self ..))
  obtain ⟨dZ,hz⟩:=hP U k hU sh
  induction aq with | @i kf q3 e0=>?_
  refine aD (E:=E2 (W2 w b1 b2)) hg al ?_
  rcases k with _ | _ | _ | _ | k
  ·refine am.sub [0,1,2,11,12,3,4] rfl (by decide) rfl fun h1 aj=>?_
   refine fF (b:=B.b0) (db:=B.d0) hx hr B.h0 hz p (Nat.le_refl _) fun x _ p2 h2 g2 ao aa=>?_
   exact ih (i+1) bv _ _ _ _ _ _ _ _ _ h2 g2 p2 dZ x.hT LN.i ao ((aj.join' [0,1,2,11,12,3,4] (by decide) rfl aa rfl).pick [0,1,2,3,4,5,6,7,8,9,10,13,14] 11 (by decide) (by decide) hk rfl) fin
  ·refine am.sub [0,1,2,11,12,5,6] rfl (by decide) rfl fun h1 aj=>?_
   refine fF (b:=B.b1) (db:=B.d1) hx hr B.h1 hz p (Nat.le_refl _) fun x _ p2 h2 g2 ao aa=>?_
   exact ih (i+1) bv _ _ _ _ _ _ _ _ _ h2 g2 p2 dZ x.hT LN.i ao ((aj.join' [0,1,2,11,12,5,6] (by decide) rfl aa rfl).pick [0,1,2,3,4,5,6,7,8,9,10,13,14] 11 (by decide) (by decide) hk rfl) fin
  ·refine am.sub [0,1,2,11,12,7,8] rfl (by decide) rfl fun h1 aj=>?_
   refine fF (b:=B.b2) (db:=B.d2) hx hr B.h2 hz p (Nat.le_refl _) fun x _ p2 h2 g2 ao aa=>?_
   exact ih (i+1) bv _ _ _ _ _ _ _ _ _ h2 g2 p2 dZ x.hT LN.i ao ((aj.join' [0,1,2,11,12,7,8] (by decide) rfl aa rfl).pick [0,1,2,3,4,5,6,7,8,9,10,13,14] 11 (by decide) (by decide) hk rfl) fin
  ·refine am.sub [0,1,2,11,12,9,10] rfl (by decide) rfl fun h1 aj=>?_
   refine fF (b:=B.b3) (db:=B.d3) hx hr B.h3 hz p (Nat.le_refl _) fun x _ p2 h2 g2 ao aa=>?_
   exact ih (i+1) bv _ _ _ _ _ _ _ _ _ h2 g2 p2 dZ x.hT LN.i ao ((aj.join' [0,1,2,11,12,9,10] (by decide) rfl aa rfl).pick [0,1,2,3,4,5,6,7,8,9,10,13,14] 11 (by decide) (by decide) hk rfl) fin
  ·lia
theorem vM {B:BG}{P:KV->Prop}(hP:mq B P) (hk:Y<=11) {cs:List Nat}(c7:∀ k∈cs,k < 4) {ka k0:Nat}{ay:List Nat}(vH:cs=ka::ay) (mQ:k0 < 4) {ns:Obj}{q9:Value}{j tk:Nat}{h:Heap}{g:Array GenState}{p:Pos}(hU:P (B.F k0)) (aq:LN (W2 w b1 b2) pl t me un (t5 (.ref (B.b k0+1109)) (Aa uu) (Aa ch) q9 (Aa oo)) ns) (hg:AllBare g) (al:ag (Ae w b1 b2) h₀ Y (vL l oo it B (B.refs cs) ce ns (ba (oo+1109) 0) []) (j+1109) h)
  (fin:∀ U' rs rp a da ns q9 ito j tk h g,U'=cs.foldl (dM B) (B.F k0)->P U'->Z rs U'->LN (W2 w b1 b2) pl t me un (Bj a uu ch q9 (Aa oo)) ns->AllBare g->ag (Ae w b1 b2) h₀ Y (vL l oo it B (B.refs cs) ce ns ito [Aj da,Ac a da rs rp]) (j+1109) h->R (.ok .next) ⟨h,g,d,tk,os⟩):
  wpCode (Bf w b1 b2) ⟨HY (W2 w b1 b2) it l,none,none,[(fl f1,p1),(fn f2,p2),(CC,p3)],none⟩ R p ⟨h,g,d,tk,os⟩:=by
 subst vH
 obtain ⟨hx,bv⟩:=B.refs_at (i:=0) (cs:=ka::ay) rfl
 have sh:ka < 4:=c7 ka (List.mem_cons_self ..)
 obtain ⟨dZ,hz⟩:=hP _ ka hU sh
 induction aq with | @i kf q3 e0=>?_
 refine aD (E:=E2 (W2 w b1 b2)) hg al ?_
 clear al
 rcases k0 with _ | _ | _ | _ | k0
 ·rcases ka with _ | _ | _ | _ | ka
  ·refine am.sub [0,1,2,3,4] rfl (by decide) rfl fun h1 aj=>?_
   refine tR (a:=B.b0) (da:=B.d0) hx B.h0 hz p (Nat.le_refl _) fun x _ p2 h2 g2 ao aa=>?_
   exact ci hP hk c7 ay 1 bv _ _ _ _ _ _ _ _ _ h2 g2 p2 dZ x.hT LN.i ao (aj.join' [0,1,2,3,4] (by decide) rfl aa rfl) fin
  ·refine am.sub [0,1,2,3,4,5,6] rfl (by decide) rfl fun h1 aj=>?_
   refine fF (a:=B.b0) (da:=B.d0) (b:=B.b1) (db:=B.d1) hx B.h0 B.h1 hz p (Nat.le_refl _) fun x _ p2 h2 g2 ao aa=>?_
   exact ci hP hk c7 ay 1 bv _ _ _ _ _ _ _ _ _ h2 g2 p2 dZ x.hT LN.i ao (aj.join' [0,1,2,3,4,5,6] (by decide) rfl aa rfl) fin
  ·refine am.sub [0,1,2,3,4,7,8] rfl (by decide) rfl fun h1 aj=>?_
   refine fF (a:=B.b0) (da:=B.d0) (b:=B.b2) (db:=B.d2) hx B.h0 B.h2 hz p (Nat.le_refl _) fun x _ p2 h2 g2 ao aa=>?_
   exact ci hP hk c7 ay 1 bv _ _ _ _ _ _ _ _ _ h2 g2 p2 dZ x.hT LN.i ao (aj.join' [0,1,2,3,4,7,8] (by decide) rfl aa rfl) fin
  ·refine am.sub [0,1,2,3,4,9,10] rfl (by decide) rfl fun h1 aj=>?_
   refine fF (a:=B.b0) (da:=B.d0) (b:=B.b3) (db:=B.d3) hx B.h0 B.h3 hz p (Nat.le_refl _) fun x _ p2 h2 g2 ao aa=>?_
   exact ci hP hk c7 ay 1 bv _ _ _ _ _ _ _ _ _ h2 g2 p2 dZ x.hT LN.i ao (aj.join' [0,1,2,3,4,9,10] (by decide) rfl aa rfl) fin
  ·lia
 ·rcases ka with _ | _ | _ | _ | ka
  ·refine am.sub [0,1,2,5,6,3,4] rfl (by decide) rfl fun h1 aj=>?_
   refine fF (a:=B.b1) (da:=B.d1) (b:=B.b0) (db:=B.d0) hx B.h1 B.h0 hz p (Nat.le_refl _) fun x _ p2 h2 g2 ao aa=>?_
   exact ci hP hk c7 ay 1 bv _ _ _ _ _ _ _ _ _ h2 g2 p2 dZ x.hT LN.i ao (aj.join' [0,1,2,5,6,3,4] (by decide) rfl aa rfl) fin
  ·refine am.sub [0,1,2,5,6] rfl (by decide) rfl fun h1 aj=>?_
   refine tR (a:=B.b1) (da:=B.d1) hx B.h1 hz p (Nat.le_refl _) fun x _ p2 h2 g2 ao aa=>?_
   exact ci hP hk c7 ay 1 bv _ _ _ _ _ _ _ _ _ h2 g2 p2 dZ x.hT LN.i ao (aj.join' [0,1,2,5,6] (by decide) rfl aa rfl) fin
  ·refine am.sub [0,1,2,5,6,7,8] rfl (by decide) rfl fun h1 aj=>?_
   refine fF (a:=B.b1) (da:=B.d1) (b:=B.b2) (db:=B.d2) hx B.h1 B.h2 hz p (Nat.le_refl _) fun x _ p2 h2 g2 ao aa=>?_
   exact ci hP hk c7 ay 1 bv _ _ _ _ _ _ _ _ _ h2 g2 p2 dZ x.hT LN.i ao (aj.join' [0,1,2,5,6,7,8] (by decide) rfl aa rfl) fin
  ·refine am.sub [0,1,2,5,6,9,10] rfl (by decide) rfl fun h1 aj=>?_
   refine fF (a:=B.b1) (da:=B.d1) (b:=B.b3) (db:=B.d3) hx B.h1 B.h3 hz p (Nat.le_refl _) fun x _ p2 h2 g2 ao aa=>?_
   exact ci hP hk c7 ay 1 bv _ _ _ _ _ _ _ _ _ h2 g2 p2 dZ x.hT LN.i ao (aj.join' [0,1,2,5,6,9,10] (by decide) rfl aa rfl) fin
  ·lia
 ·rcases ka with _ | _ | _ | _ | ka
  ·refine am.sub [0,1,2,7,8,3,4] rfl (by decide) rfl fun h1 aj=>?_
   refine fF (a:=B.b2) (da:=B.d2) (b:=B.b0) (db:=B.d0) hx B.h2 B.h0 hz p (Nat.le_refl _) fun x _ p2 h2 g2 ao aa=>?_
   exact ci hP hk c7 ay 1 bv _ _ _ _ _ _ _ _ _ h2 g2 p2 dZ x.hT LN.i ao (aj.join' [0,1,2,7,8,3,4] (by decide) rfl aa rfl) fin
  ·refine am.sub [0,1,2,7,8,5,6] rfl (by decide) rfl fun h1 aj=>?_
   refine fF (a:=B.b2) (da:=B.d2) (b:=B.b1) (db:=B.d1) hx B.h2 B.h1 hz p (Nat.le_refl _) fun x _ p2 h2 g2 ao aa=>?_
   exact ci hP hk c7 ay 1 bv _ _ _ _ _ _ _ _ _ h2 g2 p2 dZ x.hT LN.i ao (aj.join' [0,1,2,7,8,5,6] (by decide) rfl aa rfl) fin
  ·refine am.sub [0,1,2,7,8] rfl (by decide) rfl fun h1 aj=>?_
   refine tR (a:=B.b2) (da:=B.d2) hx B.h2 hz p (Nat.le_refl _) fun x _ p2 h2 g2 ao aa=>?_
   exact ci hP hk c7 ay 1 bv _ _ _ _ _ _ _ _ _ h2 g2 p2 dZ x.hT LN.i ao (aj.join' [0,1,2,7,8] (by decide) rfl aa rfl) fin
  ·refine am.sub [0,1,2,7,8,9,10] rfl (by decide) rfl fun h1 aj=>?_
   refine fF (a:=B.b2) (da:=B.d2) (b:=B.b3) (db:=B.d3) hx B.h2 B.h3 hz p (Nat.le_refl _) fun x _ p2 h2 g2 ao aa=>?_
   exact ci hP hk c7 ay 1 bv _ _ _ _ _ _ _ _ _ h2 g2 p2 dZ x.hT LN.i ao (aj.join' [0,1,2,7,8,9,10] (by decide) rfl aa rfl) fin
  ·lia
 ·rcases ka with _ | _ | _ | _ | ka
  ·refine am.sub [0,1,2,9,10,3,4] rfl (by decide) rfl fun h1 aj=>?_
   refine fF (a:=B.b3) (da:=B.d3) (b:=B.b0) (db:=B.d0) hx B.h3 B.h0 hz p (Nat.le_refl _) fun x _ p2 h2 g2 ao aa=>?_
   exact ci hP hk c7 ay 1 bv _ _ _ _ _ _ _ _ _ h2 g2 p2 dZ x.hT LN.i ao (aj.join' [0,1,2,9,10,3,4] (by decide) rfl aa rfl) fin
  ·refine am.sub [0,1,2,9,10,5,6] rfl (by decide) rfl fun h1 aj=>?_
   refine fF (a:=B.b3) (da:=B.d3) (b:=B.b1) (db:=B.d1) hx B.h3 B.h1 hz p (Nat.le_refl _) fun x _ p2 h2 g2 ao aa=>?_
   exact ci hP hk c7 ay 1 bv _ _ _ _ _ _ _ _ _ h2 g2 p2 dZ x.hT LN.i ao (aj.join' [0,1,2,9,10,5,6] (by decide) rfl aa rfl) fin
  ·refine am.sub [0,1,2,9,10,7,8] rfl (by decide) rfl fun h1 aj=>?_
   refine fF (a:=B.b3) (da:=B.d3) (b:=B.b2) (db:=B.d2) hx B.h3 B.h2 hz p (Nat.le_refl _) fun x _ p2 h2 g2 ao aa=>?_
   exact ci hP hk c7 ay 1 bv _ _ _ _ _ _ _ _ _ h2 g2 p2 dZ x.hT LN.i ao (aj.join' [0,1,2,9,10,7,8] (by decide) rfl aa rfl) fin
  ·refine am.sub [0,1,2,9,10] rfl (by decide) rfl fun h1 aj=>?_
   refine tR (a:=B.b3) (da:=B.d3) hx B.h3 hz p (Nat.le_refl _) fun x _ p2 h2 g2 ao aa=>?_
   exact ci hP hk c7 ay 1 bv _ _ _ _ _ _ _ _ _ h2 g2 p2 dZ x.hT LN.i ao (aj.join' [0,1,2,9,10] (by decide) rfl aa rfl) fin
  ·lia
 ·lia
structure J6 (P:Nat->Obj->Prop) (Q:KV->Prop) (U:KV) where
 a:Nat
 da:Nat
 ns:Obj
 hN:P a ns
 es:Array DictEntry
 ep:Nat
 hT:Z es U
 hQ:Q U
 ito:Obj
 j:Nat
 tk:Nat
noncomputable def M7 (W:World) (pl:Bool) (t me un uu ch oo a:Nat) (ns:Obj):Prop:=∃ q9,LN W pl t me un (t5 (.ref (a+1109)) (.ref (uu+1109)) (.ref (ch+1109)) q9 (.ref (oo+1109))) ns
noncomputable def M8 (t me un l uu ch oo it ce:Nat) (pl:Bool) (q9:Value) (B:BG) (k0:Nat) (mQ:k0 < 4) (cs:List Nat) (vH:cs≠[]) {P:KV->Prop}(hP:mq B P) (c7:∀ k∈cs,k < 4) (hU:P (B.F k0)) (hQ:P (cs.foldl (dM B) (B.F k0))) {ns:Obj}(aq:LN (W2 w b1 b2) pl t me un (t5 (.ref (B.b k0+1109)) (.ref (uu+1109)) (.ref (ch+1109)) q9 (.ref (oo+1109))) ns) (is:List Nat) (nd:is.Nodup) (hl:11=is.length):aL (E2 (W2 w b1 b2)) d os:=
 aL.sub (J6 (M7 (W2 w b1 b2) pl t me un uu ch oo) P (cs.foldl (dM B) (B.F k0))) ⟨0,0,_,⟨.none,oh _⟩,_,0,bX _,hQ,av,0,0⟩ (HY (W2 w b1 b2) it l) [2,1] is (vL l oo it B (B.refs cs) ce ns (ba (oo+1109) 0) [])
  nd hl (fun _=>.next) (fun x=>vL l oo it B (B.refs cs) ce x.ns x.ito [(x.da+1109,av),(x.a+1109,ah (x.da+1109) x.es x.ep)]) (fun x=>x.j+1109) (fun x=>x.tk) (fun _=>True) (fun x=>by rw [<- hl];rfl) (by
  intro Γ h g p n tk Q aV hc hg hr k
  refine kx aV hc fun f1 f2 p1 p2 p3=>?_
  obtain ⟨j,rfl⟩:=dn (i:=0) hr rfl
  obtain ⟨ka,ay,JP⟩:=List.exists_cons_of_ne_nil vH
  exact vM hP (hl▸Nat.le_refl _) c7 JP mQ hU aq hg hr fun U' cf cS a' M9 aQ EF Cd j' aF h' g' HW ou HX cq bQ bk=>by
   subst HW
   exact k ⟨a',M9,aQ,⟨EF,cq⟩,cf,cS,HX,ou,Cd,j',aF⟩ trivial h' g' bQ bk)
end
theorem jm (r:KV) (k c:Int):(bw r k c).map (·.1)=if k∈r.map (·.1) then r.map (·.1) else r.map (·.1)++[k]:=by
 induction r with
 | nil=>rfl
 | cons x r ih=>
  unfold bw
  by_cases h:x.1=k
  ·rw [if_pos h];simp [h]
  ·rw [if_neg h,List.map_cons,ih]
   have h':¬ k=x.1:=fun q=>h q.symm
   simp only [List.map_cons,List.mem_cons,h',false_or]
   split<;>simp
theorem np {r:KV}{k c:Int}(h:k ∉ r.map (·.1)):bw r k c=r++[(k,c)]:=by
 induction r with
 | nil=>rfl
 | cons x r ih=>
  rw [List.map_cons,List.mem_cons,not_or] at h
  unfold bw
  rw [if_neg (fun q=>h.1 q.symm),ih h.2]
  rfl
theorem Ce (r:KV) (k c k':Int):lk (bw r k c) k'=if k=k' then some c else lk r k':=by
 induction r with
 | nil=>rfl
 | cons x r ih=>
  unfold bw
  by_cases h:x.1=k
  ·rw [if_pos h]
   show (if x.1=k' then some c else lk r k')=if k=k' then some c else (if x.1=k' then some x.2 else lk r k')
   rw [h]
   by_cases q:k=k'
   ·rw [if_pos q,if_pos q]
   ·rw [if_neg q,if_neg q,if_neg q]
  ·rw [if_neg h]
   show (if x.1=k' then some x.2 else lk (bw r k c) k')=if k=k' then some c else (if x.1=k' then some x.2 else lk r k')
   rw [ih]
   by_cases q:x.1=k'
   ·rw [if_pos q,if_pos q,if_neg (fun z=>h (q.trans z.symm))]
   ·rw [if_neg q,if_neg q]
theorem iz (r:KV) (k c k':Int):ct (bw r k c) k'=if k=k' then c else ct r k':=by
 unfold ct
 rw [Ce]
 split<;>rfl
theorem vN {r:KV}{k c:Int}{x:Int×Int}(h:x∈bw r k c):x=(k,c)∨x∈r:=by
 induction r with
 | nil=>simp [bw] at h;exact .inl h
 | cons y r ih=>
  unfold bw at h
  split at h
  ·next q=>
   rcases List.mem_cons.mp h with rfl | h
   ·exact .inl (by rw [q])
   ·exact .inr (List.mem_cons_of_mem _ h)
  ·rcases List.mem_cons.mp h with rfl | h
   ·exact .inr (List.mem_cons_self ..)
   ·rcases ih h with e | e
    ·exact .inl e
    ·exact .inr (List.mem_cons_of_mem _ e)
theorem mr {r:KV}{k c:Int}(h:lk r k=some c):(k,c)∈r:=by
 induction r with
 | nil=>cases h
 | cons y r ih=>
  have h:(if y.1=k then some y.2 else lk r k)=some c:=h
  split at h
  ·next q=>cases h;subst q;exact List.mem_cons_self ..
  ·exact List.mem_cons_of_mem _ (ih h)
theorem fZ {r:KV}{k:Int}:lk r k=none↔k ∉ r.map (·.1):=by
 induction r with
 | nil=>simp [lk]
 | cons y r ih=>
  show (if y.1=k then some y.2 else lk r k)=none↔_
  by_cases h:y.1=k
  ·rw [if_pos h];simp [h]
  ·rw [if_neg h,ih]
   have h':¬ k=y.1:=fun q=>h q.symm
   simp [h']
noncomputable def Ks (L:KV):Prop:=(L.map (·.1)).Nodup/\∀ k∈L.map (·.1),0<=k/\k < 6
theorem Ks.nil:Ks []:=⟨List.nodup_nil,fun _ h=>nomatch h⟩
theorem Ks.put {r:KV}(h:Ks r) {k:Int}(hk:0<=k/\k < 6) (c:Int):Ks (bw r k c):=by
 unfold Ks
 rw [jm]
 split
 ·exact h
 ·next q=>
  refine ⟨?_,?_⟩
  ·rw [List.nodup_append]
   exact ⟨h.1,by simp,fun a ha b hb=>by rw [List.mem_singleton] at hb;subst hb;exact fun e=>q (e▸ha)⟩
  ·intro k' HS
   rcases List.mem_append.mp HS with z | z
   ·exact h.2 _ z
   ·rw [List.mem_singleton] at z;subst z;exact hk
theorem mt {α:Type}[BEq α] [LawfulBEq α]:∀ (l l':List α),l.Nodup->(∀ a∈l,a∈l')->l.length<=l'.length
 | [],_,_,_=>Nat.zero_le _
 | x::l,l',hd,hs=>by
  have hx:=hs x (List.mem_cons_self ..)
  have:=mt l (l'.erase x) (List.nodup_cons.mp hd).2 fun a ha=>(List.mem_erase_of_ne (fun q:a=x=>(List.nodup_cons.mp hd).1 (q▸ha))).mpr (hs a (List.mem_cons_of_mem _ ha))
  rw [List.length_erase_of_mem hx] at this
  have h0:0 < l'.length:=List.length_pos_of_mem hx
  simp only [List.length_cons]
  lia
theorem Ks.len {L:KV}(h:Ks L):L.length<=6:=by
 have h1:(L.map (·.1)).length<=([0,1,2,3,4,5]:List Int).length:=by
  refine mt _ _ h.1 fun k hk=>?_
  have:=h.2 k hk
  simp only [List.mem_cons,List.not_mem_nil,or_false]
  lia
 simpa using h1
noncomputable def PU (U:KV):Prop:=Ks U/\∀ x∈U,x.2>0
noncomputable def PM (L:KV):Prop:=Ks L/\ct L 5>0
theorem PU.nil:PU []:=⟨Ks.nil,fun _ h=>nomatch h⟩
theorem PM.ne {L:KV}(h:PM L):L≠[]:=fun q=>by subst q;exact absurd h.2 (by decide)
theorem ow (k:Int):ct [] k=0:=rfl
theorem lg {L:KV}(h:(L.map (·.1)).Nodup) {x:Int×Int}(hx:x∈L):ct L x.1=x.2:=by
 induction L with
 | nil=>cases hx
 | cons y L ih=>
  rw [List.map_cons,List.nodup_cons] at h
  rcases List.mem_cons.mp hx with rfl | hx
  ·show (if x.1=x.1 then some x.2 else _).getD 0=_
   rw [if_pos rfl];rfl
  ·show (if y.1=x.1 then some y.2 else lk L x.1).getD 0=_
   rw [if_neg (fun q:y.1=x.1=>h.1 (q▸List.mem_map_of_mem hx))]
   exact ih h.2 hx
theorem jJ {F:KV}(hF:(F.map (·.1)).Nodup) {S:KV->Int×Int->KV}{g:Int->Int->Int}(hS:∀ r x k,ct (S r x) k=if x.1=k then g (ct r k) x.2 else ct r k) (r:KV) (k:Int):
  ct (F.foldl S r) k=match lk F k with | some v=>g (ct r k) v | none=>ct r k:=by
 induction F generalizing r with
 | nil=>rfl
 | cons x F ih=>
  rw [List.map_cons,List.nodup_cons] at hF
  rw [List.foldl_cons,ih hF.2,hS]
  show _=match (if x.1=k then some x.2 else lk F k) with | some v=>g (ct r k) v | none=>ct r k
  by_cases h:x.1=k
  ·rw [if_pos h,if_pos h]
   have:lk F k=none:=fZ.mpr (h▸hF.1)
   rw [this]
  ·rw [if_neg h,if_neg h]
theorem Cf (r:KV) (x:Int×Int) (k:Int):ct (bS r x) k=if x.1=k then (if x.2>ct r k then x.2 else ct r k) else ct r k:=by
 unfold bS
 by_cases h:x.2>ct r x.1
 ·rw [if_pos h,iz]
  by_cases q:x.1=k
  ·subst q;rw [if_pos rfl,if_pos rfl,if_pos h]
  ·rw [if_neg q,if_neg q]
 ·rw [if_neg h]
  by_cases q:x.1=k
  ·subst q;rw [if_pos rfl,if_neg h]
  ·rw [if_neg q]
theorem Cg (r:KV) (x:Int×Int) (k:Int):ct (dS r x) k=if x.1=k then x.2+ct r k else ct r k:=by
 unfold dS
 rw [iz]
 by_cases q:x.1=k
 ·subst q;rw [if_pos rfl]
 ·rw [if_neg q,if_neg q]
theorem Ch (r:KV) (x:Int×Int) (k:Int):ct (dT r x) k=if x.1=k then ct r k - x.2 else ct r k:=by
 unfold dT
 rw [iz]
 by_cases q:x.1=k
 ·subst q;rw [if_pos rfl]
 ·rw [if_neg q,if_neg q]
theorem jn {F:KV}{k:Int}:(∃ v,lk F k=some v/\ct F k=v)∨(lk F k=none/\ct F k=0):=by
 unfold ct
 cases lk F k with
 | none=>exact .inr ⟨rfl,rfl⟩
 | some v=>exact .inl ⟨v,rfl,rfl⟩
theorem ox {F U:KV}(hF:(F.map (·.1)).Nodup) (hU:∀ k,0<=ct U k) (k:Int):ct (F.foldl bS U) k=max (ct U k) (ct F k):=by
 rw [jJ hF (g:=fun a b=>if b>a then b else a) Cf]
 rcases jn (F:=F) (k:=k) with ⟨v,h1,h2⟩ | ⟨h1,h2⟩
 ·rw [h1,h2];dsimp only;split<;>lia
 ·rw [h1,h2];have:=hU k;dsimp only;lia
theorem EG {F U:KV}(hF:(F.map (·.1)).Nodup) (k:Int):ct (F.foldl dS U) k=ct U k+ct F k:=by
 rw [jJ hF (g:=fun a b=>b+a) Cg]
 rcases jn (F:=F) (k:=k) with ⟨v,h1,h2⟩ | ⟨h1,h2⟩
 ·rw [h1,h2];exact Int.add_comm _ _
 ·rw [h1,h2];dsimp only;lia
theorem EH {F U:KV}(hF:(F.map (·.1)).Nodup) (k:Int):ct (F.foldl dT U) k=ct U k - ct F k:=by
 rw [jJ hF (g:=fun a b=>a - b) Ch]
 rcases jn (F:=F) (k:=k) with ⟨v,h1,h2⟩ | ⟨h1,h2⟩
 ·rw [h1,h2]
 ·rw [h1,h2];dsimp only;lia
theorem Ci {F U:KV}(hF:(F.map (·.1)).Nodup) (k:Int):ct (cj U F) k=match lk F k with | some v=>v | none=>ct U k:=by
 unfold cj
 rw [jJ hF (S:=fun r x=>bw r x.1 x.2) (g:=fun a b=>b) (fun r x k=>by rw [iz])]
theorem jK {S:KV->Int×Int->KV}(hS:∀ r x,S r x=r∨∃ c,S r x=bw r x.1 c) {F:KV}(hF:∀ k∈F.map (·.1),0<=k/\k < 6) {r:KV}(hr:Ks r):Ks (F.foldl S r):=by
 induction F generalizing r with
 | nil=>exact hr
 | cons x F ih=>
  rw [List.foldl_cons]
  refine ih (fun k hk=>hF k (List.mem_cons_of_mem _ hk)) ?_
  rcases hS r x with e | ⟨c,e⟩
  ·rw [e];exact hr
  ·rw [e];exact hr.put (hF _ (List.mem_cons_self ..)) c
theorem Cj (F r:KV) (x:Int×Int):eX F r x=r∨∃ c,eX F r x=bw r x.1 c:=by
 unfold eX;dsimp only
 generalize (if x.2 < ct F x.1 then x.2 else ct F x.1)=nv
 split
 ·exact .inr ⟨_,rfl⟩
 ·exact .inl rfl
theorem gI {F:KV}:∀ {L r:KV},(L.map (·.1)).Nodup->(∀ k∈L.map (·.1),k ∉ r.map (·.1))->L.foldl (eX F) r=r++(L.map fun x=>(x.1,min x.2 (ct F x.1))).filter fun x=>decide (x.2>0)
 | [],r,_,_=>by simp
 | x::L,r,hL,hr=>by
  rw [List.map_cons,List.nodup_cons] at hL
  have hx:x.1 ∉ r.map (·.1):=hr _ (List.mem_cons_self ..)
  have e:(if x.2 < ct F x.1 then x.2 else ct F x.1)=min x.2 (ct F x.1):=by split<;>lia
  have e2:eX F r x=if min x.2 (ct F x.1)>0 then r++[(x.1,min x.2 (ct F x.1))] else r:=by
   unfold eX;dsimp only
   rw [e]
   split
   ·exact np hx
   ·rfl
  rw [List.foldl_cons,e2,List.map_cons,List.filter_cons]
  by_cases h:min x.2 (ct F x.1)>0
  ·rw [if_pos h,if_pos (decide_eq_true h),gI hL.2 ?_]
   ·simp
   ·intro k hk q
    rw [List.map_append,List.mem_append] at q
    rcases q with q | q
    ·exact hr k (List.mem_cons_of_mem _ hk) q
    ·simp at q
     exact hL.1 (q▸hk)
  ·rw [if_neg h,if_neg (by simpa using h),gI hL.2 fun k hk=>hr k (List.mem_cons_of_mem _ hk)]
theorem PU.ct {U:KV}(h:PU U) (k:Int):0<=ct U k:=by
 rcases jn (F:=U) (k:=k) with ⟨v,h1,h2⟩ | ⟨h1,h2⟩
 ·rw [h2];exact Int.le_of_lt (h.2 _ (mr h1))
 ·lia
theorem qH {U:KV}(h:PU U) {x:Int×Int}(hx:0<=x.1/\x.1 < 6):PU (bS U x):=by
 unfold bS
 split
 ·next q=>
  refine ⟨h.1.put hx _,fun y hy=>?_⟩
  rcases vN hy with e | e
  ·have:=h.ct x.1;rw [e];show x.2>0;lia
  ·exact h.2 _ e
 ·exact h
theorem qI {F:KV}(hF:∀ k∈F.map (·.1),0<=k/\k < 6) {U:KV}(h:PU U):PU (F.foldl bS U):=by
 induction F generalizing U with
 | nil=>exact h
 | cons x F ih=>exact ih (fun k hk=>hF k (List.mem_cons_of_mem _ hk)) (qH h (hF _ (List.mem_cons_self ..)))
theorem iA {r:KV}{k:Int}(h:lk r k=none):ct r k=0:=by unfold ct;rw [h];rfl
theorem qJ {L F:KV}(hL:(L.map (·.1)).Nodup) (k:Int):ct (L.foldl (eX F) []) k=max 0 (min (ct L k) (ct F k)):=by
 rw [gI hL (fun _ _=>List.not_mem_nil),List.nil_append]
 induction L with
 | nil=>simp only [List.map_nil,List.filter_nil,ow];lia
 | cons x L ih=>
  rw [List.map_cons,List.nodup_cons] at hL
  rw [List.map_cons,List.filter_cons]
  have e:ct (x::L) k=if x.1=k then x.2 else ct L k:=by
   show (if x.1=k then some x.2 else lk L k).getD 0=_
   split<;>rfl
  have z:∀ (P:Int×Int->Bool),x.1 ∉ ((L.map fun x=>(x.1,min x.2 (ct F x.1))).filter P).map (·.1):=by
   intro P q
   rw [List.mem_map] at q
   obtain ⟨y,hy,e⟩:=q
   obtain ⟨y',DM,e'⟩:=List.mem_map.mp (List.mem_filter.mp hy).1
   subst e'
   have e:y'.1=x.1:=e
   exact hL.1 (e▸(List.mem_map_of_mem (f:=(·.1)) DM:y'.1∈L.map (·.1)))
  rw [e]
  by_cases h:min x.2 (ct F x.1)>0
  ·rw [if_pos (decide_eq_true h)]
   have e2:∀ (r:KV),ct ((x.1,min x.2 (ct F x.1))::r) k=if x.1=k then min x.2 (ct F x.1) else ct r k:=by
    intro r
    show (if x.1=k then some _ else lk r k).getD 0=_
    split<;>rfl
   rw [e2,ih hL.2]
   by_cases q:x.1=k
   ·subst q;rw [if_pos rfl,if_pos rfl];lia
   ·rw [if_neg q,if_neg q]
  ·rw [if_neg (by simpa using h)]
   by_cases q:x.1=k
   ·subst q
    rw [if_pos rfl]
    have:=iA (fZ.mpr (z fun x=>decide (x.2>0)))
    rw [this];lia
   ·rw [if_neg q,ih hL.2]
theorem EI {B:BG}(hB:∀ k,PM (B.F k)):kg B PU:=by
 intro U k hU hk
 have h1:=qI (hB k).1.2 hU
 refine ⟨h1,h1.2,?_,?_⟩
 ·intro q
  have:=ox (hB k).1.1 hU.ct 5
  have e:fx B U k=(B.F k).foldl bS U:=rfl
  rw [<- e,q] at this
  have h2:=(hB k).2
  have h3:=hU.ct 5
  have h4:=ow 5
  lia
 ·have:=hU.1.len
  have:=(hB k).1.len
  exact dz (by lia)
theorem gX {B:BG}(hB:∀ k,PM (B.F k)) {L:KV}(hL:PM L) (k:Nat):PM (dM B L k):=by
 refine ⟨jK (Cj _) hL.1.2 Ks.nil,?_⟩
 show ct (L.foldl (eX (B.F k)) []) 5>0
 rw [qJ hL.1.1]
 have:=hL.2
 have:=(hB k).2
 lia
theorem tS {B:BG}(hB:∀ k,PM (B.F k)):mq B PM:=fun L k hL hk=>⟨gX hB hL k,dz (by have:=hL.1.len;lia)⟩
noncomputable def bu (x:Nat):List Nat:=(List.range 4).filter fun k=>x / 2 ^ k % 2==1
noncomputable def nq (cs:List Nat):List Nat:=match cs with | _::y::r=>y::r | l=>l
noncomputable def aC (B:BG) (cs:List Nat):KV:=cs.foldl (fx B) []
noncomputable def aR (B:BG) (cs:List Nat):KV:=(nq cs).foldl (dM B) (B.F (cs.headD 0))
theorem kh {α β:Type}{P:α->Prop}{S:α->β->α}:∀ (l:List β) (a:α),P a->(∀ a b,b∈l->P a->P (S a b))->P (l.foldl S a)
 | [],_,h,_=>h
 | b::l,a,h,H=>kh l _ (H a b (List.mem_cons_self ..) h) fun a c hc=>H a c (List.mem_cons_of_mem _ hc)
theorem fg {B:BG}(hB:∀ k,PM (B.F k)) (cs:List Nat):PU (aC B cs):=kh cs _ PU.nil fun U k _ hU=>qI (hB k).1.2 hU
theorem fy {B:BG}(hB:∀ k,PM (B.F k)) (cs:List Nat):PM (aR B cs):=kh _ _ (hB _) fun U k _ hU=>gX hB hU k
noncomputable def kX (c n:Nat) (U A:KV):KV:=match c with
 | 0=>cj [] A
 | _=>if n % 2=1 then A.foldl dS U else A.foldl dT U
noncomputable def fM (B:BG):Nat->KV
 | 0=>[]
 | c+1=>kX c (bu (c+1)).length (fM B c) (aR B (bu (c+1)))
noncomputable def fN (B:BG):Nat->KV
 | 0=>[]
 | c+1=>kX c (bu (c+1)).length (fN B c) (aC B (bu (c+1)))
theorem Ck (r:KV) (x:Int×Int):dS r x=r∨∃ c,dS r x=bw r x.1 c:=.inr ⟨_,rfl⟩
theorem Cl (r:KV) (x:Int×Int):dT r x=r∨∃ c,dT r x=bw r x.1 c:=.inr ⟨_,rfl⟩
theorem tT {c n:Nat}{U A:KV}(hU:Ks U) (hA:Ks A):Ks (kX c n U A):=by
 unfold kX
 split
 ·exact jK (fun r x=>.inr ⟨_,rfl⟩) hA.2 Ks.nil
 ·split
  ·exact jK Ck hA.2 hU
  ·exact jK Cl hA.2 hU
theorem Cm (r:KV) (k c:Int):bw r k c≠[]:=by
 cases r with
 | nil=>simp [bw]
 | cons x r=>unfold bw;split<;>simp
theorem tU {c n:Nat}{U A:KV}(hA:A≠[]):kX c n U A≠[]:=by
 have z:∀ (S:KV->Int×Int->KV) (hS:∀ r x,∃ c,S r x=bw r x.1 c) (A r:KV),(A≠[]∨r≠[])->A.foldl S r≠[]:=by
  intro S hS A
  induction A with
  | nil=>intro r h;rcases h with h | h;exact absurd rfl h;exact h
  | cons x A ih=>intro r _;obtain ⟨c,e⟩:=hS r x;exact ih _ (.inr (e▸Cm _ _ _))
 unfold kX
 split
 ·exact z _ (fun r x=>⟨_,rfl⟩) _ _ (.inl hA)
 ·split
  ·exact z dS (fun r x=>⟨_,rfl⟩) _ _ (.inl hA)
  ·exact z dT (fun r x=>⟨_,rfl⟩) _ _ (.inl hA)
theorem Cn {B:BG}(hB:∀ k,PM (B.F k)):∀ c,Ks (fM B c)
 | 0=>Ks.nil
 | c+1=>tT (Cn hB c) (fy hB _).1
theorem Co {B:BG}(hB:∀ k,PM (B.F k)):∀ c,Ks (fN B c)
 | 0=>Ks.nil
 | c+1=>tT (Co hB c) (fg hB _).1
theorem Cp {B:BG}(hB:∀ k,PM (B.F k)) (c:Nat):fM B (c+1)≠[]:=tU (fy hB _).ne
theorem vO {B:BG}(hB:∀ k,PM (B.F k)) {cs:List Nat}(h:cs≠[]):ct (aC B cs) 5>0:=by
 obtain ⟨l,k,rfl⟩:∃ l k,cs=l++[k]:=⟨cs.dropLast,cs.getLast h,(List.dropLast_concat_getLast h).symm⟩
 show ct ((l++[k]).foldl (fx B) []) 5>0
 rw [List.foldl_append]
 show ct ((B.F k).foldl bS (aC B l)) 5>0
 rw [ox (hB k).1.1 (fg hB l).ct]
 have:=(hB k).2
 lia
theorem HZ {c:Nat}(h:c < 15):bu (c+1)≠[]:=by
 have:∀ c:Fin 15,bu (c.1+1)≠[]:=by decide
 exact this ⟨c,h⟩
theorem Cq {B:BG}(hB:∀ k,PM (B.F k)) {c:Nat}(h:c < 15):fN B (c+1)≠[]:=tU fun q=>by
 have:=vO hB (HZ h)
 rw [q] at this
 exact absurd this (by decide)
section
variable {A B M U:KV}{a b c0 c1 c2 c3 ce ch da db dm du e0 ep fp it j km ku l me mp t tk un up:Nat}{b1 b2 pl:Bool}{d:Drawn}{es fs ms us:Array DictEntry}{f2:FN}{p2 p3:Pos}{w:World}
noncomputable abbrev A4:=fun a b c d e f g h=>(⟨Ag (ai (W2 a b c) 1107 5) d a b c e,none,none,[(fn f,g),(CC,h)],none⟩:Ctx)
noncomputable abbrev Bu:=fun a b c d=>c9 [az (W2 a b c) 1107 5 5] (Ax a b c d)
theorem H0 {kf:Nat->Nat}{os:OsState}{q3 q9 q10:Value}(hA:Z es A) (hB:Z fs B) (Na:A.length<=8) (Nb:B.length<=8):
  Qc b1 b2 pl d os fun b1 b2 pl=>⟨Ae w b1 b2,10,(A4 w b1 b2 it l f2 p2 p3),Bu w b1 b2 l,[(l+1109,AY w b1 b2 pl t me un kf q3 (Bj a b ch q9 q10) e0),(ch+1109,BM #[.ref (c0+1109)] ce),Aj du,Bm un du,Aj da,Ac a da es ep,Aj dm,Bm me dm,Aj db,Ac b db fs fp],j+1109,tk,.c (BW un a du da ep es hA Na [2,3,4,5] (by decide) rfl) fun x1=>.c (BW me b dm db fp fs hB Nb [6,7,8,9] (by decide) rfl) fun x2=>.e (.e (.done .next) [(l+1109,AY w b1 b2 pl t me un kf q3 (Bj a b ch q9 q10) e0),(ch+1109,⟨(.type "list"),none,.seq #[(Aa c0)] ce,#[]⟩),Aj du,(un+1109,AP du (cb.es x1) (x1.ep)),Aj da,Ac a da es ep,Aj dm,(me+1109,AP dm (cb.es x2) (x2.ep)),Aj db,Ac b db fs fp] ((x2.j)+1109) ((x2.5)))⟩:=b7 147 (Hx 0x1101340000400040004100002020200100) [(Hx 0x11017800008000800081),[]] [] (by kernel_rfl)
theorem J7 {kf:Nat->Nat}{os:OsState}{q3 q9 q10:Value}(hA:Z es A) (hB:Z fs B) (hU:Z us U) (hM:Z ms M) (si:U.length+A.length<=sizeLine) (sj:M.length+B.length<=sizeLine) (vP:us.size=ku+1) (H1:ku < 7) (vQ:ms.size=km+1) (H2:km < 7):
  Qc b1 b2 pl d os fun b1 b2 pl=>⟨Ae w b1 b2,10,(A4 w b1 b2 it l f2 p2 p3),Bu w b1 b2 l,[(l+1109,AY w b1 b2 pl t me un kf q3 (Bj a b ch q9 q10) e0),(ch+1109,BM #[.ref (c0+1109)] ce),Aj du,Ac un du us up,Aj da,Ac a da es ep,Aj dm,Ac me dm ms mp,Aj db,Ac b db fs fp],j+1109,tk,.c (oi un a du da up ep ku us es hU hA si vP H1 [2,3,4,5] (by decide) rfl) fun x1=>.c (oi me b dm db mp fp km ms fs hM hB sj vQ H2 [6,7,8,9] (by decide) rfl) fun x2=>.e (.e (.done .next) [(l+1109,AY w b1 b2 pl t me un kf q3 (Bj a b ch q9 q10) e0),(ch+1109,⟨(.type "list"),none,.seq #[(Aa c0)] ce,#[]⟩),Aj du,(un+1109,AP du (cb.es x1) (x1.ep)),Aj da,Ac a da es ep,Aj dm,(me+1109,AP dm (cb.es x2) (x2.ep)),Aj db,Ac b db fs fp] ((x2.j)+1109) ((x2.5)))⟩:=b7 147 (Hx 0x1101340000400040004100002020200100) [(Hx 0x11017800008000800081),[]] [] (by kernel_rfl)
theorem J8 {kf:Nat->Nat}{os:OsState}{q3 q9 q10:Value}(hA:Z es A) (hB:Z fs B) (hU:Z us U) (hM:Z ms M) (si:U.length+A.length<=sizeLine) (sj:M.length+B.length<=sizeLine):
  Qc b1 b2 pl d os fun b1 b2 pl=>⟨Ae w b1 b2,10,(A4 w b1 b2 it l f2 p2 p3),Bu w b1 b2 l,[(l+1109,AY w b1 b2 pl t me un kf q3 (Bj a b ch q9 q10) e0),(ch+1109,BM #[.ref (c0+1109),.ref (c1+1109)] ce),Aj du,Ac un du us up,Aj da,Ac a da es ep,Aj dm,Ac me dm ms mp,Aj db,Ac b db fs fp],j+1109,tk,.c (oj un a du da up ep us es hU hA si [2,3,4,5] (by decide) rfl) fun x1=>.c (oj me b dm db mp fp ms fs hM hB sj [6,7,8,9] (by decide) rfl) fun x2=>.e (.e (.done .next) [(l+1109,AY w b1 b2 pl t me un kf q3 (Bj a b ch q9 q10) e0),(ch+1109,⟨(.type "list"),none,.seq #[(Aa c0),(Aa c1)] ce,#[]⟩),Aj du,(un+1109,AP du (cb.es x1) (x1.ep)),Aj da,Ac a da es ep,Aj dm,(me+1109,AP dm (cb.es x2) (x2.ep)),Aj db,Ac b db fs fp] ((x2.j)+1109) ((x2.5)))⟩:=b7 147 (Hx 0x1101340000400040004100002020200100) [(Hx 0x11017800008000800081),[]] [] (by kernel_rfl)
theorem J9 {kf:Nat->Nat}{os:OsState}{q3 q9 q10:Value}(hA:Z es A) (hB:Z fs B) (hU:Z us U) (hM:Z ms M) (si:U.length+A.length<=sizeLine) (sj:M.length+B.length<=sizeLine) (vP:us.size=ku+1) (H1:ku < 7) (vQ:ms.size=km+1) (H2:km < 7):
  Qc b1 b2 pl d os fun b1 b2 pl=>⟨Ae w b1 b2,10,(A4 w b1 b2 it l f2 p2 p3),Bu w b1 b2 l,[(l+1109,AY w b1 b2 pl t me un kf q3 (Bj a b ch q9 q10) e0),(ch+1109,BM #[.ref (c0+1109),.ref (c1+1109),.ref (c2+1109)] ce),Aj du,Ac un du us up,Aj da,Ac a da es ep,Aj dm,Ac me dm ms mp,Aj db,Ac b db fs fp],j+1109,tk,.c (oi un a du da up ep ku us es hU hA si vP H1 [2,3,4,5] (by decide) rfl) fun x1=>.c (oi me b dm db mp fp km ms fs hM hB sj vQ H2 [6,7,8,9] (by decide) rfl) fun x2=>.e (.e (.done .next) [(l+1109,AY w b1 b2 pl t me un kf q3 (Bj a b ch q9 q10) e0),(ch+1109,⟨(.type "list"),none,.seq #[(Aa c0),(Aa c1),(Aa c2)] ce,#[]⟩),Aj du,(un+1109,AP du (cb.es x1) (x1.ep)),Aj da,Ac a da es ep,Aj dm,(me+1109,AP dm (cb.es x2) (x2.ep)),Aj db,Ac b db fs fp] ((x2.j)+1109) ((x2.5)))⟩:=b7 147 (Hx 0x1101340000400040004100002020200100) [(Hx 0x11017800008000800081),[]] [] (by kernel_rfl)
theorem Ka {kf:Nat->Nat}{os:OsState}{q3 q9 q10:Value}(hA:Z es A) (hB:Z fs B) (hU:Z us U) (hM:Z ms M) (si:U.length+A.length<=sizeLine) (sj:M.length+B.length<=sizeLine):
  Qc b1 b2 pl d os fun b1 b2 pl=>⟨Ae w b1 b2,10,(A4 w b1 b2 it l f2 p2 p3),Bu w b1 b2 l,[(l+1109,AY w b1 b2 pl t me un kf q3 (Bj a b ch q9 q10) e0),(ch+1109,BM #[.ref (c0+1109),.ref (c1+1109),.ref (c2+1109),.ref (c3+1109)] ce),Aj du,Ac un du us up,Aj da,Ac a da es ep,Aj dm,Ac me dm ms mp,Aj db,Ac b db fs fp],j+1109,tk,.c (oj un a du da up ep us es hU hA si [2,3,4,5] (by decide) rfl) fun x1=>.c (oj me b dm db mp fp ms fs hM hB sj [6,7,8,9] (by decide) rfl) fun x2=>.e (.e (.done .next) [(l+1109,AY w b1 b2 pl t me un kf q3 (Bj a b ch q9 q10) e0),(ch+1109,(Aw c0 c1 c2 c3 ce)),Aj du,(un+1109,AP du (cb.es x1) (x1.ep)),Aj da,Ac a da es ep,Aj dm,(me+1109,AP dm (cb.es x2) (x2.ep)),Aj db,Ac b db fs fp] ((x2.j)+1109) ((x2.5)))⟩:=b7 147 (Hx 0x1101340000400040004100002020200100) [(Hx 0x11017800008000800081),[]] [] (by kernel_rfl)
end
section
variable {B:BG}{U:KV}{a ce ch da e0 it j k0 l me oo rp t tc tk un:Nat}{b1 b2 pl:Bool}{co:Option Value}{cs:List Nat}{d:Drawn}{f2:FN}{left x:Int}{p2 p3:Pos}{rs:Array DictEntry}{w:World}
theorem H3 {os:OsState}:
  Qw w b1 b2 d os fun W=>⟨E2 W,1,⟨AG (ai W 1107 5) it W l,none,none,[(fn f2,p2),(CC,p3)],none⟩,ic (cn (ai W 1107 5)) (.int x tc) [] (ab W l),[(l+1111,⟨.type "cell",none,.cell co,#[]⟩)],j+1109,tk,.e (.e (.done .next) [(l+1111,⟨(.type "cell"),none,.cell (some (.int x tc)),#[]⟩)] (j+1109) tk)⟩:=bU 66 [1,1] [] [] (by kernel_rfl)
noncomputable abbrev B5:=fun a b=>((a+1109,((a+1109,b).snd)):Addr×Obj)
noncomputable abbrev BI:=fun a b c d=>((a+1109,⟨(.type "list"),none,.seq (BG.refs b c) d,#[]⟩):Addr×Obj)
theorem H4 {kf:Nat->Nat}{os:OsState}{q3 q6:Value}{P:KV->Prop}(hP:kg B P) (c7:∀ k∈cs,k < 4) (hf:true=true->cs.length=1) (hU:P U) (hT:Z rs U) (hQ:P (cs.foldl (fx B) U)):
  Qc b1 b2 pl d os fun b1 b2 pl=>⟨Ae w b1 b2,12,(A4 w b1 b2 it l f2 p2 p3),c9 [B0 (W2 w b1 b2)] (Ax w b1 b2 l),[(l+1109,AY w b1 b2 pl t me un kf q3 (t3 q6 (Aa a) (Aa ch)) e0),(ch+1109,BM (B.refs cs) ce),Aj da,Ac a da rs rp,Aj B.d0,Ac B.b0 B.d0 B.e0 B.p0,Aj B.d1,Ac B.b1 B.d1 B.e1 B.p1,Aj B.d2,Ac B.b2 B.d2 B.e2 B.p2,Aj B.d3,Ac B.b3 B.d3 B.e3 B.p3],j+1109,tk,.c (J5 t me un l a da ch j ce rp pl true q6 .none .none B cs rs hP c7 hf hU hT hQ (ns:=bB (W2 w b1 b2) pl t me un kf q3 (t3 q6 (Aa a) (Aa ch)) e0) LN.i [0,1,12,2,3,4,5,6,7,8,9,10,11] (by decide) rfl) fun x1=>.e (.e (.done .next) [B5 l x1.ns,BI ch B cs ce,Aj da,(a+1109,AP da (HV.es x1) (x1.ep)),((B.d0)+1109,av),((B.b0)+1109,AH B.d0 (BG.e0 B) (B.p0)),((B.d1)+1109,av),((B.b1)+1109,AH B.d1 (BG.e1 B) (B.p1)),((B.d2)+1109,av),((B.b2)+1109,AH B.d2 (BG.e2 B) (B.p2)),((B.d3)+1109,av),((B.b3)+1109,AH B.d3 (BG.e3 B) (B.p3))] ((x1.j)+1109) ((x1.9)))⟩:=b7 76 [1,2,2,0,2,0,13,1] [[]] [] (by kernel_rfl)
theorem H5 {kf:Nat->Nat}{os:OsState}{q3 q6 q9 q10:Value}{P:KV->Prop}(hP:kg B P) (c7:∀ k∈cs,k < 4) (hU:P U) (hT:Z rs U) (hQ:P (cs.foldl (fx B) U)):
  Qc b1 b2 pl d os fun b1 b2 pl=>⟨Ae w b1 b2,12,(A4 w b1 b2 it l f2 p2 p3),c9 [B0 (W2 w b1 b2)] (Ax w b1 b2 l),[(l+1109,AY w b1 b2 pl t me un kf q3 (t5 q6 (Aa a) (Aa ch) q9 q10) e0),(ch+1109,BM (B.refs cs) ce),Aj da,Ac a da rs rp,Aj B.d0,Ac B.b0 B.d0 B.e0 B.p0,Aj B.d1,Ac B.b1 B.d1 B.e1 B.p1,Aj B.d2,Ac B.b2 B.d2 B.e2 B.p2,Aj B.d3,Ac B.b3 B.d3 B.e3 B.p3],j+1109,tk,.c (J5 t me un l a da ch j ce rp pl false q6 q9 q10 B cs rs hP c7 (fun h=>nomatch h) hU hT hQ (ns:=bB (W2 w b1 b2) pl t me un kf q3 (t5 q6 (Aa a) (Aa ch) q9 q10) e0) LN.i [0,1,12,2,3,4,5,6,7,8,9,10,11] (by decide) rfl) fun x1=>.e (.e (.done .next) [B5 l x1.ns,BI ch B cs ce,Aj da,(a+1109,AP da (HV.es x1) (x1.ep)),((B.d0)+1109,av),((B.b0)+1109,AH B.d0 (BG.e0 B) (B.p0)),((B.d1)+1109,av),((B.b1)+1109,AH B.d1 (BG.e1 B) (B.p1)),((B.d2)+1109,av),((B.b2)+1109,AH B.d2 (BG.e2 B) (B.p2)),((B.d3)+1109,av),((B.b3)+1109,AH B.d3 (BG.e3 B) (B.p3))] ((x1.j)+1109) ((x1.9)))⟩:=b7 76 [1,2,2,0,2,0,13,1] [[]] [] (by kernel_rfl)
theorem Gf {kf:Nat->Nat}{os:OsState}{q3 q9:Value}{P:KV->Prop}(mQ:k0 < 4) (vH:cs≠[]) (hP:mq B P) (c7:∀ k∈cs,k < 4) (hU:P (B.F k0)) (hQ:P (cs.foldl (dM B) (B.F k0))):
  Qc b1 b2 pl d os fun b1 b2 pl=>⟨Ae w b1 b2,10,(A4 w b1 b2 it l f2 p2 p3),c9 [az (W2 w b1 b2) 1107 5 4] (Ax w b1 b2 l),[(l+1109,AY w b1 b2 pl t me un kf q3 (t5 (.ref (B.b k0+1109)) (Aa a) (Aa ch) q9 (Aa oo)) e0),(oo+1109,BM (B.refs cs) ce),Aj B.d0,Ac B.b0 B.d0 B.e0 B.p0,Aj B.d1,Ac B.b1 B.d1 B.e1 B.p1,Aj B.d2,Ac B.b2 B.d2 B.e2 B.p2,Aj B.d3,Ac B.b3 B.d3 B.e3 B.p3],j+1109,tk,.c (M8 t me un l a ch oo j ce pl q9 B k0 mQ cs vH hP c7 hU hQ (ns:=bB (W2 w b1 b2) pl t me un kf q3 (t5 (.ref (B.b k0+1109)) (Aa a) (Aa ch) q9 (Aa oo)) e0) LN.i [0,1,10,2,3,4,5,6,7,8,9] (by decide) rfl) fun x1=>.e (.e (.done .next) [B5 l x1.ns,BI oo B cs ce,((B.d0)+1109,av),((B.b0)+1109,AH B.d0 (BG.e0 B) (B.p0)),((B.d1)+1109,av),((B.b1)+1109,AH B.d1 (BG.e1 B) (B.p1)),((B.d2)+1109,av),((B.b2)+1109,AH B.d2 (BG.e2 B) (B.p2)),((B.d3)+1109,av),((B.b3)+1109,AH B.d3 (BG.e3 B) (B.p3)),((x1.da)+1109,(av)),((x1.a)+1109,(AH x1.da (J6.es x1) (x1.ep)))] ((x1.j)+1109) ((x1.11)))⟩:=b7 76 [1,2,2,0,2,0,11,1] [[]] [11,12] (by kernel_rfl)
theorem Kb {os:OsState}(hl:left<=0):
  Qw w b1 b2 d os fun W=>⟨E2 W,1,⟨AG (ai W 1107 5) it W l,none,none,[(fn f2,p2),(CC,p3)],none⟩,den (AG (ai W 1107 5) it W l),[(it+1109,aY x left 1)],j+1109,tk,.c (lW 0 (it+1109) x left hl) fun x1=>.e (.e (.done .next) [(it+1109,(aY x left 1))] (j+1111) tk)⟩:=bU 69 [1,0,1,1] [[3,0]] [] (by kernel_rfl)
end
section
variable {b1 b2 pl:Bool}{c0 c1 c2 c3 ce ch e0 it j l me t tk un:Nat}{d:Drawn}{f2:FN}{p2 p3:Pos}{w:World}
theorem Kc {kf:Nat->Nat}{os:OsState}{q3 q6 q7:Value}:
  Qv w b1 b2 pl d os fun W pl=>⟨E2 W,2,⟨ax (ai W 1107 5) (it+1109) (ab W l),none,none,[(fn f2,p2),(CC,p3)],none⟩,c9 [az W 1107 5 1] (ab W l),[(l+1109,bB W pl t me un kf q3 (t3 q6 q7 (.ref (ch+1109))) e0),(ch+1109,ac #[.ref (c0+1109)] ce)],j+1109,tk,.e (.e (.done .next) [(l+1109,bB W pl t me un kf q3 (t3 (.ref (c0+1109)) (.ref (j+1110)) (.ref (ch+1109))) e0),(ch+1109,(ac #[(.ref (c0+1109))] ce)),(j+1109,av),(j+1110,ah (j+1109) #[] 0)] (j+1123) (tk+13))⟩:=b7 356 (Hx 0x1111110feedee0e0eeedee0e0eeedee0e0ee0d0ddd20202221b0b0b0bbcc20cccccc00009009a555a55660003044000000400400000004604408080400007770707777777704400707700000060000020666666000000004040000000000000000000000000) [] [2,3] (by kernel_rfl)
theorem Kd {kf:Nat->Nat}{os:OsState}{q3 q6 q7 q9 q10:Value}:
  Qv w b1 b2 pl d os fun W pl=>⟨E2 W,2,⟨ax (ai W 1107 5) (it+1109) (ab W l),none,none,[(fn f2,p2),(CC,p3)],none⟩,c9 [az W 1107 5 1] (ab W l),[(l+1109,bB W pl t me un kf q3 (t5 q6 q7 (.ref (ch+1109)) q9 q10) e0),(ch+1109,ac #[.ref (c0+1109)] ce)],j+1109,tk,.e (.e (.done .next) [(l+1109,bB W pl t me un kf q3 (t5 (.ref (c0+1109)) (.ref (j+1110)) (.ref (ch+1109)) q9 q10) e0),(ch+1109,(ac #[(.ref (c0+1109))] ce)),(j+1109,av),(j+1110,ah (j+1109) #[] 0)] (j+1123) (tk+13))⟩:=b7 356 (Hx 0x1111110feedee0e0eeedee0e0eeedee0e0ee0d0ddd20202221b0b0b0bbcc20cccccc00009009a555a55660003044000000400400000004604408080400007770707777777704400707700000060000020666666000000004040000000000000000000000000) [] [2,3] (by kernel_rfl)
theorem Ke {kf:Nat->Nat}{os:OsState}{q3 q6 q7 q9 q10:Value}:
  Qv w b1 b2 pl d os fun W pl=>⟨E2 W,2,⟨ax (ai W 1107 5) (it+1109) (ab W l),none,none,[(fn f2,p2),(CC,p3)],none⟩,c9 [az W 1107 5 1] (ab W l),[(l+1109,bB W pl t me un kf q3 (t5 q6 q7 (.ref (ch+1109)) q9 q10) e0),(ch+1109,ac #[.ref (c0+1109),.ref (c1+1109)] ce)],j+1109,tk,.e (.e (.done .next) [(l+1109,bB W pl t me un kf q3 (t5 (.ref (c0+1109)) (.ref (j+1110)) (.ref (ch+1109)) q9 q10) e0),(ch+1109,(ac #[(.ref (c0+1109)),(.ref (c1+1109))] ce)),(j+1109,av),(j+1110,ah (j+1109) #[] 0)] (j+1123) (tk+13))⟩:=b7 356 (Hx 0x1111110feedee0e0eeedee0e0eeedee0e0ee0d0ddd20202221b0b0b0bbcc20cccccc00009009a555a55660003044000000400400000004604408080400007770707777777704400707700000060000020666666000000004040000000000000000000000000) [] [2,3] (by kernel_rfl)
theorem Kf {kf:Nat->Nat}{os:OsState}{q3 q6 q7 q9 q10:Value}:
  Qv w b1 b2 pl d os fun W pl=>⟨E2 W,2,⟨ax (ai W 1107 5) (it+1109) (ab W l),none,none,[(fn f2,p2),(CC,p3)],none⟩,c9 [az W 1107 5 1] (ab W l),[(l+1109,bB W pl t me un kf q3 (t5 q6 q7 (.ref (ch+1109)) q9 q10) e0),(ch+1109,ac #[.ref (c0+1109),.ref (c1+1109),.ref (c2+1109)] ce)],j+1109,tk,.e (.e (.done .next) [(l+1109,bB W pl t me un kf q3 (t5 (.ref (c0+1109)) (.ref (j+1110)) (.ref (ch+1109)) q9 q10) e0),(ch+1109,(ac #[(.ref (c0+1109)),(.ref (c1+1109)),(.ref (c2+1109))] ce)),(j+1109,av),(j+1110,ah (j+1109) #[] 0)] (j+1123) (tk+13))⟩:=b7 356 (Hx 0x1111110feedee0e0eeedee0e0eeedee0e0ee0d0ddd20202221b0b0b0bbcc20cccccc00009009a555a55660003044000000400400000004604408080400007770707777777704400707700000060000020666666000000004040000000000000000000000000) [] [2,3] (by kernel_rfl)
theorem Kg {kf:Nat->Nat}{os:OsState}{q3 q6 q7 q9 q10:Value}:
  Qv w b1 b2 pl d os fun W pl=>⟨E2 W,2,⟨ax (ai W 1107 5) (it+1109) (ab W l),none,none,[(fn f2,p2),(CC,p3)],none⟩,c9 [az W 1107 5 1] (ab W l),[(l+1109,bB W pl t me un kf q3 (t5 q6 q7 (.ref (ch+1109)) q9 q10) e0),(ch+1109,ac #[.ref (c0+1109),.ref (c1+1109),.ref (c2+1109),.ref (c3+1109)] ce)],j+1109,tk,.e (.e (.done .next) [(l+1109,bB W pl t me un kf q3 (t5 (.ref (c0+1109)) (.ref (j+1110)) (.ref (ch+1109)) q9 q10) e0),(ch+1109,(ac #[(.ref (c0+1109)),(.ref (c1+1109)),(.ref (c2+1109)),(.ref (c3+1109))] ce)),(j+1109,av),(j+1110,ah (j+1109) #[] 0)] (j+1123) (tk+13))⟩:=b7 356 (Hx 0x1111110feedee0e0eeedee0e0eeedee0e0ee0d0ddd20202221b0b0b0bbcc20cccccc00009009a555a55660003044000000400400000004604408080400007770707777777704400707700000060000020666666000000004040000000000000000000000000) [] [2,3] (by kernel_rfl)
end
section
variable {b1 b2 pl:Bool}{c0 c1 c2 c3 ce ch e0 it j l me t tk un:Nat}{d:Drawn}{f2:FN}{p2 p3:Pos}{w:World}
theorem Kh {kf:Nat->Nat}{os:OsState}{q3 q6 q7 q9:Value}:
  Qv w b1 b2 pl d os fun W pl=>⟨E2 W,2,⟨ax (ai W 1107 5) (it+1109) (ab W l),none,none,[(fn f2,p2),(CC,p3)],none⟩,c9 [az W 1107 5 3] (ab W l),[(l+1109,bB W pl t me un kf q3 (t4 q6 q7 (.ref (ch+1109)) q9) e0),(ch+1109,ac #[.ref (c0+1109)] ce)],j+1109,tk,.e (.e (.done .next) [(l+1109,bB W pl t me un (uf kf 9 (tk+3)) q3 (t5 q6 q7 (.ref (ch+1109)) q9 (.ref (ch+1109))) (e0+1)),(ch+1109,(ac #[(.ref (c0+1109))] ce))] (j+1109) (tk+4))⟩:=b7 96 (Hx 0x1111002020200100) [] [] (by kernel_rfl)
theorem Ki {kf:Nat->Nat}{os:OsState}{q3 q6 q7 q9 q10:Value}:
  Qv w b1 b2 pl d os fun W pl=>⟨E2 W,2,⟨ax (ai W 1107 5) (it+1109) (ab W l),none,none,[(fn f2,p2),(CC,p3)],none⟩,c9 [az W 1107 5 3] (ab W l),[(l+1109,bB W pl t me un kf q3 (t5 q6 q7 (.ref (ch+1109)) q9 q10) e0),(ch+1109,ac #[.ref (c0+1109)] ce)],j+1109,tk,.e (.e (.done .next) [(l+1109,bB W pl t me un kf q3 (t5 q6 q7 (.ref (ch+1109)) q9 (.ref (ch+1109))) e0),(ch+1109,(ac #[(.ref (c0+1109))] ce))] (j+1109) (tk+4))⟩:=b7 96 (Hx 0x1111002020200100) [] [] (by kernel_rfl)
theorem Kj {kf:Nat->Nat}{os:OsState}{q3 q6 q7 q9 q10:Value}:
  Qv w b1 b2 pl d os fun W pl=>⟨E2 W,2,⟨ax (ai W 1107 5) (it+1109) (ab W l),none,none,[(fn f2,p2),(CC,p3)],none⟩,c9 [az W 1107 5 3] (ab W l),[(l+1109,bB W pl t me un kf q3 (t5 q6 q7 (.ref (ch+1109)) q9 q10) e0),(ch+1109,ac #[.ref (c0+1109),.ref (c1+1109)] ce)],j+1109,tk,.e (.e (.done .next) [(l+1109,bB W pl t me un kf q3 (t5 q6 q7 (.ref (ch+1109)) q9 (.ref (j+1110))) e0),(ch+1109,(ac #[(.ref (c0+1109)),(.ref (c1+1109))] ce)),(j+1110,⟨(.type "list"),none,.seq #[(.ref (c1+1109))] 0,#[]⟩)] (j+1111) (tk+5))⟩:=b7 114 (Hx 0x1112333330202221002020200100) [] [3] (by kernel_rfl)
theorem Kk {kf:Nat->Nat}{os:OsState}{q3 q6 q7 q9 q10:Value}:
  Qv w b1 b2 pl d os fun W pl=>⟨E2 W,2,⟨ax (ai W 1107 5) (it+1109) (ab W l),none,none,[(fn f2,p2),(CC,p3)],none⟩,c9 [az W 1107 5 3] (ab W l),[(l+1109,bB W pl t me un kf q3 (t5 q6 q7 (.ref (ch+1109)) q9 q10) e0),(ch+1109,ac #[.ref (c0+1109),.ref (c1+1109),.ref (c2+1109)] ce)],j+1109,tk,.e (.e (.done .next) [(l+1109,bB W pl t me un kf q3 (t5 q6 q7 (.ref (ch+1109)) q9 (.ref (j+1110))) e0),(ch+1109,(ac #[(.ref (c0+1109)),(.ref (c1+1109)),(.ref (c2+1109))] ce)),(j+1110,⟨(.type "list"),none,.seq #[(.ref (c1+1109)),(.ref (c2+1109))] 0,#[]⟩)] (j+1111) (tk+5))⟩:=b7 114 (Hx 0x1112333330202221002020200100) [] [3] (by kernel_rfl)
theorem Kl {kf:Nat->Nat}{os:OsState}{q3 q6 q7 q9 q10:Value}:
  Qv w b1 b2 pl d os fun W pl=>⟨E2 W,2,⟨ax (ai W 1107 5) (it+1109) (ab W l),none,none,[(fn f2,p2),(CC,p3)],none⟩,c9 [az W 1107 5 3] (ab W l),[(l+1109,bB W pl t me un kf q3 (t5 q6 q7 (.ref (ch+1109)) q9 q10) e0),(ch+1109,ac #[.ref (c0+1109),.ref (c1+1109),.ref (c2+1109),.ref (c3+1109)] ce)],j+1109,tk,.e (.e (.done .next) [(l+1109,bB W pl t me un kf q3 (t5 q6 q7 (.ref (ch+1109)) q9 (.ref (j+1110))) e0),(ch+1109,(ac #[(.ref (c0+1109)),(.ref (c1+1109)),(.ref (c2+1109)),(.ref (c3+1109))] ce)),(j+1110,⟨(.type "list"),none,.seq #[(.ref (c1+1109)),(.ref (c2+1109)),(.ref (c3+1109))] 0,#[]⟩)] (j+1111) (tk+5))⟩:=b7 114 (Hx 0x1112333330202221002020200100) [] [3] (by kernel_rfl)
end
section
variable {A Bk M U:KV}{B:BG}{a b bg c c0 ce ch da db dm du e0 ep fp it j l me mp n t tk un up:Nat}{cs:List Nat}{d:Drawn}{es fs ms us:Array DictEntry}{f2:FN}{ns:Obj}{p2 p3:Pos}{tc:Tok}{w:World}
section
variable {d:Drawn}{os:OsState}{w:World}{b1 b2:Bool}{j tk t me un l it:Nat}{pl:Bool}{B:BG}{f2:FN}{p2 p3:Pos}{h₀:Heap}{Y:Nat}{R:Result->Shared->Prop}
noncomputable abbrev ig (w:World) (it l:Nat) (f2:FN) (p2 p3:Pos):Ctx:=⟨ax (ai w 1107 5) (it+1109) (ab w l),none,none,[(fn f2,p2),(CC,p3)],none⟩
noncomputable abbrev eu (v:Option Value):Obj:=⟨.type "cell",none,.cell v,#[]⟩
section
variable {d:Drawn}{os:OsState}
noncomputable def EJ (P:Nat->Bool->Bool->dW d os):List (List Nat)->Nat->Type:=@List.rec (List Nat) (fun _=>Nat->Type) (fun _=>Unit) (fun _ _ ih i=>GG (P i)×ih (Nat.succ i))
noncomputable def Nc (P:Nat->Bool->Bool->dW d os) (hl:List (List Nat)):(i:Nat)->EJ P hl i:=@List.rec (List Nat) (fun hl=>(i:Nat)->EJ P hl i) (fun _=>()) (fun hs _ ih i=>(GH (P i) 420 hs [] [6],ih (Nat.succ i))) hl
noncomputable def Nd (P:Nat->Bool->Bool->dW d os) (hl:List (List Nat)):(i:Nat)->EJ P hl i:=@List.rec (List Nat) (fun hl=>(i:Nat)->EJ P hl i) (fun _=>()) (fun hs _ ih i=>(GI (P i) 420 hs [] [6],ih (Nat.succ i))) hl
theorem H6 {P:Nat->Bool->Bool->dW d os}(eg:∀ i x y,(P i x y).E.nb=true):∀ (hl:List (List Nat)) (i:Nat),Nc P hl i=Nd P hl i->∀ k,k < hl.length->∀ x y,(P (i+k) x y).ok
 | [],_,_,_,h=>absurd h (Nat.not_lt_zero _)
 | hs::hl,i,H,0,_=>GJ 420 hs [] [6] (Prod.ext_iff.mp H).1 (eg _)
 | hs::hl,i,H,k+1,h=>by
  have z:=H6 eg hl (i+1) (Prod.ext_iff.mp H).2 k (Nat.lt_of_succ_lt_succ h)
  rw [Nat.add_right_comm] at z
  exact z
end
noncomputable def Km (w:World) (d:Drawn) (os:OsState) (t me un l it bg ce e0 j tk:Nat) (tc:Tok) (B:BG) (kf:Nat->Nat) (q3 q6 q7 q8 q9 q10:Value) (f2:FN) (p2 p3:Pos) (b2:Bool) (c:Nat) (pl b1:Bool):dW d os:=
 ⟨E2 (W2 w b1 b2),4,ig (W2 w b1 b2) it l f2 p2 p3,c9 [az (W2 w b1 b2) 1107 5 0] (ab (W2 w b1 b2) l),
  [(l+1109,bB (W2 w b1 b2) pl t me un kf q3 (tA (c==0) q6 q7 q8 q9 q10) e0),(l+1110,eu (some (.ref (bg+1109)))),(l+1111,eu (some (.int (Int.ofNat (c+1)) tc))),(bg+1109,ac (bM B.b0 B.b1 B.b2 B.b3) ce)],j+1109,tk,
  .e (.e (.done .next) [(l+1109,@Bool.rec (fun _=>Obj) (bB (W2 w b1 b2) pl t me un kf q3 (tB false q6 q7 (.ref (j+1111)) q9 q10) e0) (bB (W2 w b1 b2) pl t me un (uf kf 7 (tk+35)) q3 (tB true q6 q7 (.ref (j+1111)) q9 q10) (e0+1)) (c==0)),(l+1110,eu (some (.ref (bg+1109)))),(l+1111,eu (some (.int (Int.ofNat (c+1)) tc))),(bg+1109,ac (bM B.b0 B.b1 B.b2 B.b3) ce),(j+1111,ac (B.refs (bu (c+1))) (bu (c+1)).length)] (j+1115) (tk+36))⟩
theorem Kn {os:OsState}{kf:Nat->Nat}{q3 q6 q7 q8 q9 q10:Value}(b1 b2 pl:Bool) (hc:c < 15):(Km w d os t me un l it bg ce e0 j tk tc B kf q3 q6 q7 q8 q9 q10 f2 p2 p3 b2 c pl b1).ok:=by
 have z:(Km w d os t me un l it bg ce e0 j tk tc B kf q3 q6 q7 q8 q9 q10 f2 p2 p3 b2 (0+c) pl b1).ok:=by
  cases b2
  ·exact H6 (fun _ _ _=>rfl) [[0,0,0,0,0,0,5,5,0,5,0,5,5,5,0,5,0,5,5,5,6,0,6,6,0,6,0,6,0,6,0,6,0,6,6,6,6,6,6,6,8,8,3,8,0,0,0,0,0,0,0,0,2,8,4,4,4,0,4,0,4,0,7,0,7,7,7,0,6,0,6,0,6,6,6,6,6,6,6,8,8,3,8,0,0,0,0,0,0,0,0,0,6,0,6,0,6,6,6,6,6,6,6,8,8,3,8,0,0,0,0,0,0,0,0,0,6,0,6,0,6,6,6,6,6,6,6,8,8,3,8,0,0,0,0,0,0,0,0,0,6,0,6,0,6,6,6,10,1,1,8,8,8],[0,0,0,0,0,0,5,5,0,5,0,5,5,5,0,5,0,5,5,5,6,0,6,6,0,6,0,6,0,6,0,6,0,6,6,6,6,6,6,6,8,8,3,8,0,0,0,0,0,0,0,0,0,6,0,6,0,6,6,6,6,6,6,6,8,8,3,8,0,0,0,0,0,0,0,0,2,8,4,4,4,0,4,0,4,0,7,0,7,7,7,0,6,0,6,0,6,6,6,6,6,6,6,8,8,3,8,0,0,0,0,0,0,0,0,0,6,0,6,0,6,6,6,6,6,6,6,8,8,3,8,0,0,0,0,0,0,0,0,0,6,0,6,0,6,6,6,10,1,1,8,8,8],[0,0,0,0,0,0,5,5,0,5,0,5,5,5,0,5,0,5,5,5,6,0,6,6,0,6,0,6,0,6,0,6,0,6,6,6,6,6,6,6,8,8,3,8,0,0,0,0,0,0,0,0,2,8,4,4,4,0,4,0,4,0,7,0,7,7,7,0,6,0,6,0,6,6,6,6,6,6,6,8,8,3,8,0,0,0,0,0,0,0,0,2,8,4,4,4,0,4,0,4,0,7,0,7,7,7,0,6,0,6,0,6,6,6,6,6,6,6,8,8,3,8,0,0,0,0,0,0,0,0,0,6,0,6,0,6,6,6,6,6,6,6,8,8,3,8,0,0,0,0,0,0,0,0,0,6,0,6,0,6,6,6,10,1,1,8,8,8],[0,0,0,0,0,0,5,5,0,5,0,5,5,5,0,5,0,5,5,5,6,0,6,6,0,6,0,6,0,6,0,6,0,6,6,6,6,6,6,6,8,8,3,8,0,0,0,0,0,0,0,0,0,6,0,6,0,6,6,6,6,6,6,6,8,8,3,8,0,0,0,0,0,0,0,0,0,6,0,6,0,6,6,6,6,6,6,6,8,8,3,8,0,0,0,0,0,0,0,0,2,8,4,4,4,0,4,0,4,0,7,0,7,7,7,0,6,0,6,0,6,6,6,6,6,6,6,8,8,3,8,0,0,0,0,0,0,0,0,0,6,0,6,0,6,6,6,10,1,1,8,8,8],[0,0,0,0,0,0,5,5,0,5,0,5,5,5,0,5,0,5,5,5,6,0,6,6,0,6,0,6,0,6,0,6,0,6,6,6,6,6,6,6,8,8,3,8,0,0,0,0,0,0,0,0,2,8,4,4,4,0,4,0,4,0,7,0,7,7,7,0,6,0,6,0,6,6,6,6,6,6,6,8,8,3,8,0,0,0,0,0,0,0,0,0,6,0,6,0,6,6,6,6,6,6,6,8,8,3,8,0,0,0,0,0,0,0,0,2,8,4,4,4,0,4,0,4,0,7,0,7,7,7,0,6,0,6,0,6,6,6,6,6,6,6,8,8,3,8,0,0,0,0,0,0,0,0,0,6,0,6,0,6,6,6,10,1,1,8,8,8],[0,0,0,0,0,0,5,5,0,5,0,5,5,5,0,5,0,5,5,5,6,0,6,6,0,6,0,6,0,6,0,6,0,6,6,6,6,6,6,6,8,8,3,8,0,0,0,0,0,0,0,0,0,6,0,6,0,6,6,6,6,6,6,6,8,8,3,8,0,0,0,0,0,0,0,0,2,8,4,4,4,0,4,0,4,0,7,0,7,7,7,0,6,0,6,0,6,6,6,6,6,6,6,8,8,3,8,0,0,0,0,0,0,0,0,2,8,4,4,4,0,4,0,4,0,7,0,7,7,7,0,6,0,6,0,6,6,6,6,6,6,6,8,8,3,8,0,0,0,0,0,0,0,0,0,6,0,6,0,6,6,6,10,1,1,8,8,8],[0,0,0,0,0,0,5,5,0,5,0,5,5,5,0,5,0,5,5,5,6,0,6,6,0,6,0,6,0,6,0,6,0,6,6,6,6,6,6,6,8,8,3,8,0,0,0,0,0,0,0,0,2,8,4,4,4,0,4,0,4,0,7,0,7,7,7,0,6,0,6,0,6,6,6,6,6,6,6,8,8,3,8,0,0,0,0,0,0,0,0,2,8,4,4,4,0,4,0,4,0,7,0,7,7,7,0,6,0,6,0,6,6,6,6,6,6,6,8,8,3,8,0,0,0,0,0,0,0,0,2,8,4,4,4,0,4,0,4,0,7,0,7,7,7,0,6,0,6,0,6,6,6,6,6,6,6,8,8,3,8,0,0,0,0,0,0,0,0,0,6,0,6,0,6,6,6,10,1,1,8,8,8],[0,0,0,0,0,0,5,5,0,5,0,5,5,5,0,5,0,5,5,5,6,0,6,6,0,6,0,6,0,6,0,6,0,6,6,6,6,6,6,6,8,8,3,8,0,0,0,0,0,0,0,0,0,6,0,6,0,6,6,6,6,6,6,6,8,8,3,8,0,0,0,0,0,0,0,0,0,6,0,6,0,6,6,6,6,6,6,6,8,8,3,8,0,0,0,0,0,0,0,0,0,6,0,6,0,6,6,6,6,6,6,6,8,8,3,8,0,0,0,0,0,0,0,0,2,8,4,4,4,0,4,0,4,0,7,0,7,7,7,0,6,0,6,0,6,6,6,10,1,1,8,8,8],[0,0,0,0,0,0,5,5,0,5,0,5,5,5,0,5,0,5,5,5,6,0,6,6,0,6,0,6,0,6,0,6,0,6,6,6,6,6,6,6,8,8,3,8,0,0,0,0,0,0,0,0,2,8,4,4,4,0,4,0,4,0,7,0,7,7,7,0,6,0,6,0,6,6,6,6,6,6,6,8,8,3,8,0,0,0,0,0,0,0,0,0,6,0,6,0,6,6,6,6,6,6,6,8,8,3,8,0,0,0,0,0,0,0,0,0,6,0,6,0,6,6,6,6,6,6,6,8,8,3,8,0,0,0,0,0,0,0,0,2,8,4,4,4,0,4,0,4,0,7,0,7,7,7,0,6,0,6,0,6,6,6,10,1,1,8,8,8],[0,0,0,0,0,0,5,5,0,5,0,5,5,5,0,5,0,5,5,5,6,0,6,6,0,6,0,6,0,6,0,6,0,6,6,6,6,6,6,6,8,8,3,8,0,0,0,0,0,0,0,0,0,6,0,6,0,6,6,6,6,6,6,6,8,8,3,8,0,0,0,0,0,0,0,0,2,8,4,4,4,0,4,0,4,0,7,0,7,7,7,0,6,0,6,0,6,6,6,6,6,6,6,8,8,3,8,0,0,0,0,0,0,0,0,0,6,0,6,0,6,6,6,6,6,6,6,8,8,3,8,0,0,0,0,0,0,0,0,2,8,4,4,4,0,4,0,4,0,7,0,7,7,7,0,6,0,6,0,6,6,6,10,1,1,8,8,8],[0,0,0,0,0,0,5,5,0,5,0,5,5,5,0,5,0,5,5,5,6,0,6,6,0,6,0,6,0,6,0,6,0,6,6,6,6,6,6,6,8,8,3,8,0,0,0,0,0,0,0,0,2,8,4,4,4,0,4,0,4,0,7,0,7,7,7,0,6,0,6,0,6,6,6,6,6,6,6,8,8,3,8,0,0,0,0,0,0,0,0,2,8,4,4,4,0,4,0,4,0,7,0,7,7,7,0,6,0,6,0,6,6,6,6,6,6,6,8,8,3,8,0,0,0,0,0,0,0,0,0,6,0,6,0,6,6,6,6,6,6,6,8,8,3,8,0,0,0,0,0,0,0,0,2,8,4,4,4,0,4,0,4,0,7,0,7,7,7,0,6,0,6,0,6,6,6,10,1,1,8,8,8],[0,0,0,0,0,0,5,5,0,5,0,5,5,5,0,5,0,5,5,5,6,0,6,6,0,6,0,6,0,6,0,6,0,6,6,6,6,6,6,6,8,8,3,8,0,0,0,0,0,0,0,0,0,6,0,6,0,6,6,6,6,6,6,6,8,8,3,8,0,0,0,0,0,0,0,0,0,6,0,6,0,6,6,6,6,6,6,6,8,8,3,8,0,0,0,0,0,0,0,0,2,8,4,4,4,0,4,0,4,0,7,0,7,7,7,0,6,0,6,0,6,6,6,6,6,6,6,8,8,3,8,0,0,0,0,0,0,0,0,2,8,4,4,4,0,4,0,4,0,7,0,7,7,7,0,6,0,6,0,6,6,6,10,1,1,8,8,8],[0,0,0,0,0,0,5,5,0,5,0,5,5,5,0,5,0,5,5,5,6,0,6,6,0,6,0,6,0,6,0,6,0,6,6,6,6,6,6,6,8,8,3,8,0,0,0,0,0,0,0,0,2,8,4,4,4,0,4,0,4,0,7,0,7,7,7,0,6,0,6,0,6,6,6,6,6,6,6,8,8,3,8,0,0,0,0,0,0,0,0,0,6,0,6,0,6,6,6,6,6,6,6,8,8,3,8,0,0,0,0,0,0,0,0,2,8,4,4,4,0,4,0,4,0,7,0,7,7,7,0,6,0,6,0,6,6,6,6,6,6,6,8,8,3,8,0,0,0,0,0,0,0,0,2,8,4,4,4,0,4,0,4,0,7,0,7,7,7,0,6,0,6,0,6,6,6,10,1,1,8,8,8],[0,0,0,0,0,0,5,5,0,5,0,5,5,5,0,5,0,5,5,5,6,0,6,6,0,6,0,6,0,6,0,6,0,6,6,6,6,6,6,6,8,8,3,8,0,0,0,0,0,0,0,0,0,6,0,6,0,6,6,6,6,6,6,6,8,8,3,8,0,0,0,0,0,0,0,0,2,8,4,4,4,0,4,0,4,0,7,0,7,7,7,0,6,0,6,0,6,6,6,6,6,6,6,8,8,3,8,0,0,0,0,0,0,0,0,2,8,4,4,4,0,4,0,4,0,7,0,7,7,7,0,6,0,6,0,6,6,6,6,6,6,6,8,8,3,8,0,0,0,0,0,0,0,0,2,8,4,4,4,0,4,0,4,0,7,0,7,7,7,0,6,0,6,0,6,6,6,10,1,1,8,8,8],[0,0,0,0,0,0,5,5,0,5,0,5,5,5,0,5,0,5,5,5,6,0,6,6,0,6,0,6,0,6,0,6,0,6,6,6,6,6,6,6,8,8,3,8,0,0,0,0,0,0,0,0,2,8,4,4,4,0,4,0,4,0,7,0,7,7,7,0,6,0,6,0,6,6,6,6,6,6,6,8,8,3,8,0,0,0,0,0,0,0,0,2,8,4,4,4,0,4,0,4,0,7,0,7,7,7,0,6,0,6,0,6,6,6,6,6,6,6,8,8,3,8,0,0,0,0,0,0,0,0,2,8,4,4,4,0,4,0,4,0,7,0,7,7,7,0,6,0,6,0,6,6,6,6,6,6,6,8,8,3,8,0,0,0,0,0,0,0,0,2,8,4,4,4,0,4,0,4,0,7,0,7,7,7,0,6,0,6,0,6,6,6,10,1,1,8,8,8]] 0 (by kernel_rfl) c hc pl b1
  ·exact H6 (fun _ _ _=>rfl) [[0,0,0,0,0,0,5,5,0,5,0,5,5,5,0,5,0,5,5,5,6,0,0,6,0,6,0,6,6,6,6,6,6,6,8,8,3,8,0,0,0,0,0,0,0,0,2,8,4,4,4,0,4,0,4,0,7,0,7,7,7,0,6,0,6,0,6,6,6,6,6,6,6,8,8,3,8,0,0,0,0,0,0,0,0,0,6,0,6,0,6,6,6,6,6,6,6,8,8,3,8,0,0,0,0,0,0,0,0,0,6,0,6,0,6,6,6,6,6,6,6,8,8,3,8,0,0,0,0,0,0,0,0,0,6,0,6,0,6,6,6,10,1,1,8,8,8],[0,0,0,0,0,0,5,5,0,5,0,5,5,5,0,5,0,5,5,5,6,0,0,6,0,6,0,6,6,6,6,6,6,6,8,8,3,8,0,0,0,0,0,0,0,0,0,6,0,6,0,6,6,6,6,6,6,6,8,8,3,8,0,0,0,0,0,0,0,0,2,8,4,4,4,0,4,0,4,0,7,0,7,7,7,0,6,0,6,0,6,6,6,6,6,6,6,8,8,3,8,0,0,0,0,0,0,0,0,0,6,0,6,0,6,6,6,6,6,6,6,8,8,3,8,0,0,0,0,0,0,0,0,0,6,0,6,0,6,6,6,10,1,1,8,8,8],[0,0,0,0,0,0,5,5,0,5,0,5,5,5,0,5,0,5,5,5,6,0,0,6,0,6,0,6,6,6,6,6,6,6,8,8,3,8,0,0,0,0,0,0,0,0,2,8,4,4,4,0,4,0,4,0,7,0,7,7,7,0,6,0,6,0,6,6,6,6,6,6,6,8,8,3,8,0,0,0,0,0,0,0,0,2,8,4,4,4,0,4,0,4,0,7,0,7,7,7,0,6,0,6,0,6,6,6,6,6,6,6,8,8,3,8,0,0,0,0,0,0,0,0,0,6,0,6,0,6,6,6,6,6,6,6,8,8,3,8,0,0,0,0,0,0,0,0,0,6,0,6,0,6,6,6,10,1,1,8,8,8],[0,0,0,0,0,0,5,5,0,5,0,5,5,5,0,5,0,5,5,5,6,0,0,6,0,6,0,6,6,6,6,6,6,6,8,8,3,8,0,0,0,0,0,0,0,0,0,6,0,6,0,6,6,6,6,6,6,6,8,8,3,8,0,0,0,0,0,0,0,0,0,6,0,6,0,6,6,6,6,6,6,6,8,8,3,8,0,0,0,0,0,0,0,0,2,8,4,4,4,0,4,0,4,0,7,0,7,7,7,0,6,0,6,0,6,6,6,6,6,6,6,8,8,3,8,0,0,0,0,0,0,0,0,0,6,0,6,0,6,6,6,10,1,1,8,8,8],[0,0,0,0,0,0,5,5,0,5,0,5,5,5,0,5,0,5,5,5,6,0,0,6,0,6,0,6,6,6,6,6,6,6,8,8,3,8,0,0,0,0,0,0,0,0,2,8,4,4,4,0,4,0,4,0,7,0,7,7,7,0,6,0,6,0,6,6,6,6,6,6,6,8,8,3,8,0,0,0,0,0,0,0,0,0,6,0,6,0,6,6,6,6,6,6,6,8,8,3,8,0,0,0,0,0,0,0,0,2,8,4,4,4,0,4,0,4,0,7,0,7,7,7,0,6,0,6,0,6,6,6,6,6,6,6,8,8,3,8,0,0,0,0,0,0,0,0,0,6,0,6,0,6,6,6,10,1,1,8,8,8],[0,0,0,0,0,0,5,5,0,5,0,5,5,5,0,5,0,5,5,5,6,0,0,6,0,6,0,6,6,6,6,6,6,6,8,8,3,8,0,0,0,0,0,0,0,0,0,6,0,6,0,6,6,6,6,6,6,6,8,8,3,8,0,0,0,0,0,0,0,0,2,8,4,4,4,0,4,0,4,0,7,0,7,7,7,0,6,0,6,0,6,6,6,6,6,6,6,8,8,3,8,0,0,0,0,0,0,0,0,2,8,4,4,4,0,4,0,4,0,7,0,7,7,7,0,6,0,6,0,6,6,6,6,6,6,6,8,8,3,8,0,0,0,0,0,0,0,0,0,6,0,6,0,6,6,6,10,1,1,8,8,8],[0,0,0,0,0,0,5,5,0,5,0,5,5,5,0,5,0,5,5,5,6,0,0,6,0,6,0,6,6,6,6,6,6,6,8,8,3,8,0,0,0,0,0,0,0,0,2,8,4,4,4,0,4,0,4,0,7,0,7,7,7,0,6,0,6,0,6,6,6,6,6,6,6,8,8,3,8,0,0,0,0,0,0,0,0,2,8,4,4,4,0,4,0,4,0,7,0,7,7,7,0,6,0,6,0,6,6,6,6,6,6,6,8,8,3,8,0,0,0,0,0,0,0,0,2,8,4,4,4,0,4,0,4,0,7,0,7,7,7,0,6,0,6,0,6,6,6,6,6,6,6,8,8,3,8,0,0,0,0,0,0,0,0,0,6,0,6,0,6,6,6,10,1,1,8,8,8],[0,0,0,0,0,0,5,5,0,5,0,5,5,5,0,5,0,5,5,5,6,0,0,6,0,6,0,6,6,6,6,6,6,6,8,8,3,8,0,0,0,0,0,0,0,0,0,6,0,6,0,6,6,6,6,6,6,6,8,8,3,8,0,0,0,0,0,0,0,0,0,6,0,6,0,6,6,6,6,6,6,6,8,8,3,8,0,0,0,0,0,0,0,0,0,6,0,6,0,6,6,6,6,6,6,6,8,8,3,8,0,0,0,0,0,0,0,0,2,8,4,4,4,0,4,0,4,0,7,0,7,7,7,0,6,0,6,0,6,6,6,10,1,1,8,8,8],[0,0,0,0,0,0,5,5,0,5,0,5,5,5,0,5,0,5,5,5,6,0,0,6,0,6,0,6,6,6,6,6,6,6,8,8,3,8,0,0,0,0,0,0,0,0,2,8,4,4,4,0,4,0,4,0,7,0,7,7,7,0,6,0,6,0,6,6,6,6,6,6,6,8,8,3,8,0,0,0,0,0,0,0,0,0,6,0,6,0,6,6,6,6,6,6,6,8,8,3,8,0,0,0,0,0,0,0,0,0,6,0,6,0,6,6,6,6,6,6,6,8,8,3,8,0,0,0,0,0,0,0,0,2,8,4,4,4,0,4,0,4,0,7,0,7,7,7,0,6,0,6,0,6,6,6,10,1,1,8,8,8],[0,0,0,0,0,0,5,5,0,5,0,5,5,5,0,5,0,5,5,5,6,0,0,6,0,6,0,6,6,6,6,6,6,6,8,8,3,8,0,0,0,0,0,0,0,0,0,6,0,6,0,6,6,6,6,6,6,6,8,8,3,8,0,0,0,0,0,0,0,0,2,8,4,4,4,0,4,0,4,0,7,0,7,7,7,0,6,0,6,0,6,6,6,6,6,6,6,8,8,3,8,0,0,0,0,0,0,0,0,0,6,0,6,0,6,6,6,6,6,6,6,8,8,3,8,0,0,0,0,0,0,0,0,2,8,4,4,4,0,4,0,4,0,7,0,7,7,7,0,6,0,6,0,6,6,6,10,1,1,8,8,8],[0,0,0,0,0,0,5,5,0,5,0,5,5,5,0,5,0,5,5,5,6,0,0,6,0,6,0,6,6,6,6,6,6,6,8,8,3,8,0,0,0,0,0,0,0,0,2,8,4,4,4,0,4,0,4,0,7,0,7,7,7,0,6,0,6,0,6,6,6,6,6,6,6,8,8,3,8,0,0,0,0,0,0,0,0,2,8,4,4,4,0,4,0,4,0,7,0,7,7,7,0,6,0,6,0,6,6,6,6,6,6,6,8,8,3,8,0,0,0,0,0,0,0,0,0,6,0,6,0,6,6,6,6,6,6,6,8,8,3,8,0,0,0,0,0,0,0,0,2,8,4,4,4,0,4,0,4,0,7,0,7,7,7,0,6,0,6,0,6,6,6,10,1,1,8,8,8],[0,0,0,0,0,0,5,5,0,5,0,5,5,5,0,5,0,5,5,5,6,0,0,6,0,6,0,6,6,6,6,6,6,6,8,8,3,8,0,0,0,0,0,0,0,0,0,6,0,6,0,6,6,6,6,6,6,6,8,8,3,8,0,0,0,0,0,0,0,0,0,6,0,6,0,6,6,6,6,6,6,6,8,8,3,8,0,0,0,0,0,0,0,0,2,8,4,4,4,0,4,0,4,0,7,0,7,7,7,0,6,0,6,0,6,6,6,6,6,6,6,8,8,3,8,0,0,0,0,0,0,0,0,2,8,4,4,4,0,4,0,4,0,7,0,7,7,7,0,6,0,6,0,6,6,6,10,1,1,8,8,8],[0,0,0,0,0,0,5,5,0,5,0,5,5,5,0,5,0,5,5,5,6,0,0,6,0,6,0,6,6,6,6,6,6,6,8,8,3,8,0,0,0,0,0,0,0,0,2,8,4,4,4,0,4,0,4,0,7,0,7,7,7,0,6,0,6,0,6,6,6,6,6,6,6,8,8,3,8,0,0,0,0,0,0,0,0,0,6,0,6,0,6,6,6,6,6,6,6,8,8,3,8,0,0,0,0,0,0,0,0,2,8,4,4,4,0,4,0,4,0,7,0,7,7,7,0,6,0,6,0,6,6,6,6,6,6,6,8,8,3,8,0,0,0,0,0,0,0,0,2,8,4,4,4,0,4,0,4,0,7,0,7,7,7,0,6,0,6,0,6,6,6,10,1,1,8,8,8],[0,0,0,0,0,0,5,5,0,5,0,5,5,5,0,5,0,5,5,5,6,0,0,6,0,6,0,6,6,6,6,6,6,6,8,8,3,8,0,0,0,0,0,0,0,0,0,6,0,6,0,6,6,6,6,6,6,6,8,8,3,8,0,0,0,0,0,0,0,0,2,8,4,4,4,0,4,0,4,0,7,0,7,7,7,0,6,0,6,0,6,6,6,6,6,6,6,8,8,3,8,0,0,0,0,0,0,0,0,2,8,4,4,4,0,4,0,4,0,7,0,7,7,7,0,6,0,6,0,6,6,6,6,6,6,6,8,8,3,8,0,0,0,0,0,0,0,0,2,8,4,4,4,0,4,0,4,0,7,0,7,7,7,0,6,0,6,0,6,6,6,10,1,1,8,8,8],[0,0,0,0,0,0,5,5,0,5,0,5,5,5,0,5,0,5,5,5,6,0,0,6,0,6,0,6,6,6,6,6,6,6,8,8,3,8,0,0,0,0,0,0,0,0,2,8,4,4,4,0,4,0,4,0,7,0,7,7,7,0,6,0,6,0,6,6,6,6,6,6,6,8,8,3,8,0,0,0,0,0,0,0,0,2,8,4,4,4,0,4,0,4,0,7,0,7,7,7,0,6,0,6,0,6,6,6,6,6,6,6,8,8,3,8,0,0,0,0,0,0,0,0,2,8,4,4,4,0,4,0,4,0,7,0,7,7,7,0,6,0,6,0,6,6,6,6,6,6,6,8,8,3,8,0,0,0,0,0,0,0,0,2,8,4,4,4,0,4,0,4,0,7,0,7,7,7,0,6,0,6,0,6,6,6,10,1,1,8,8,8]] 0 (by kernel_rfl) c hc pl b1
 rw [Nat.zero_add] at z
 exact z
noncomputable abbrev Bq:=fun (a:BG) b=>ac (bM a.b0 a.b1 a.b2 a.b3) b
theorem EK (hc:c < 15) {q6 q7 q8 q9 q10:Value}(aq:LN (W2 w b1 b2) pl t me un (tA (c==0) q6 q7 q8 q9 q10) ns) (aI:Pos) (hk:Y<=4)
  (fin:∀ aQ ch vR j' aF p h g,LN (W2 w b1 b2) pl t me un (tB (c==0) q6 q7 (Aa ch) q9 q10) aQ->AllBare g->ag (Ae w b1 b2) h₀ Y [A6 l aQ,(l+1110,eu (some (Aa bg))),(l+1111,eu (some (.int (Int.ofNat (c+1)) tc))),(bg+1109,Bq B ce),(ch+1109,BM (B.refs (bu (c+1))) vR)] (j'+1109) h->dx (Ae w b1 b2) R (ig (W2 w b1 b2) it l f2 p2 p3) (.done .next) p ⟨h,g,d,aF,os⟩):
  am (Ae w b1 b2) h₀ Y R d os ⟨ig (W2 w b1 b2) it l f2 p2 p3,aI,[],c9 [az (W2 w b1 b2) 1107 5 0] (Ax w b1 b2 l),[A6 l ns,(l+1110,eu (some (Aa bg))),(l+1111,eu (some (.int (Int.ofNat (c+1)) tc))),(bg+1109,Bq B ce)],j+1109,tk⟩:=by
 induction aq with | @i kf q3 e0=>?_
 refine Kn b1 b2 pl hc aI hk fun p h g hg al=>fin _ (j+2) _ (j+6) _ p h g ?_ hg al
 cases c==0<;>exact .i
theorem EL (f:Bool) {q6 q7 q9 q10:Value}(hf:f=true->cs.length=1) (h4:cs.length<=4) (bD:cs≠[]) (aq:LN (W2 w b1 b2) pl t me un (tB f q6 q7 (Aa ch) q9 q10) ns) (aI:Pos) (hk:Y<=2)
  (fin:∀ aQ da a j' aF p h g,LN (W2 w b1 b2) pl t me un (tB f (.ref (B.b (cs.headD 0)+1109)) (Aa a) (Aa ch) q9 q10) aQ->AllBare g->ag (Ae w b1 b2) h₀ Y [A6 l aQ,(ch+1109,BM (B.refs cs) ce),Aj da,Bm a da] (j'+1109) h->dx (Ae w b1 b2) R (ig (W2 w b1 b2) it l f2 p2 p3) (.done .next) p ⟨h,g,d,aF,os⟩):
  am (Ae w b1 b2) h₀ Y R d os ⟨ig (W2 w b1 b2) it l f2 p2 p3,aI,[],c9 [az (W2 w b1 b2) 1107 5 1] (Ax w b1 b2 l),[A6 l ns,(ch+1109,BM (B.refs cs) ce)],j+1109,tk⟩:=by
 cases f with
 | true=>
  obtain ⟨k0,rfl⟩:∃ k,cs=[k]:=List.length_eq_one_iff.mp (hf rfl)
  induction aq with | @i kf q3 e0=>?_
  exact Kc (c0:=B.b k0) aI hk fun p h g hg al=>fin _ j (j+1) (j+14) _ p h g LN.i hg al
 | false=>
  induction aq with | @i kf q3 e0=>?_
  rcases cs with _ | ⟨c0,_ | ⟨c1,_ | ⟨c2,_ | ⟨c3,_ | ⟨c4,cs⟩⟩⟩⟩⟩
  ·exact absurd rfl bD
  ·exact Kd (c0:=B.b c0) aI hk fun p h g hg al=>fin _ j (j+1) (j+14) _ p h g LN.i hg al
  ·exact Ke (c0:=B.b c0) (c1:=B.b c1) aI hk fun p h g hg al=>fin _ j (j+1) (j+14) _ p h g LN.i hg al
  ·exact Kf (c0:=B.b c0) (c1:=B.b c1) (c2:=B.b c2) aI hk fun p h g hg al=>fin _ j (j+1) (j+14) _ p h g LN.i hg al
  ·exact Kg (c0:=B.b c0) (c1:=B.b c1) (c2:=B.b c2) (c3:=B.b c3) aI hk fun p h g hg al=>fin _ j (j+1) (j+14) _ p h g LN.i hg al
  ·simp at h4
theorem EM (f:Bool) {q6 q7 q9 q10:Value}(aq:LN (W2 w b1 b2) pl t me un (tC f q6 q7 (Aa ch) q9 q10) ns) (aI:Pos) (hk:Y<=2)
  (fin:∀ aQ j' aF p h g,LN (W2 w b1 b2) pl t me un (t5 q6 q7 (Aa ch) q9 (Aa ch)) aQ->AllBare g->ag (Ae w b1 b2) h₀ Y [A6 l aQ,(ch+1109,BM (B.refs [c0]) ce)] (j'+1109) h->dx (Ae w b1 b2) R (ig (W2 w b1 b2) it l f2 p2 p3) (.done .next) p ⟨h,g,d,aF,os⟩):
  am (Ae w b1 b2) h₀ Y R d os ⟨ig (W2 w b1 b2) it l f2 p2 p3,aI,[],c9 [az (W2 w b1 b2) 1107 5 3] (Ax w b1 b2 l),[A6 l ns,(ch+1109,BM (B.refs [c0]) ce)],j+1109,tk⟩:=by
 cases f with
 | true=>
  induction aq with | @i kf q3 e0=>?_
  exact Kh (c0:=B.b c0) aI hk fun p h g hg al=>fin _ j _ p h g LN.i hg al
 | false=>
  induction aq with | @i kf q3 e0=>?_
  exact Ki (c0:=B.b c0) aI hk fun p h g hg al=>fin _ j _ p h g LN.i hg al
theorem Cr {q6 q7 q9 q10:Value}(h2:2<=cs.length) (h4:cs.length<=4) (aq:LN (W2 w b1 b2) pl t me un (t5 q6 q7 (Aa ch) q9 q10) ns) (aI:Pos) (hk:Y<=2)
  (fin:∀ aQ oo oe j' aF p h g,LN (W2 w b1 b2) pl t me un (t5 q6 q7 (Aa ch) q9 (Aa oo)) aQ->AllBare g->ag (Ae w b1 b2) h₀ Y [A6 l aQ,(ch+1109,BM (B.refs cs) ce),(oo+1109,BM (B.refs (nq cs)) oe)] (j'+1109) h->dx (Ae w b1 b2) R (ig (W2 w b1 b2) it l f2 p2 p3) (.done .next) p ⟨h,g,d,aF,os⟩):
  am (Ae w b1 b2) h₀ Y R d os ⟨ig (W2 w b1 b2) it l f2 p2 p3,aI,[],c9 [az (W2 w b1 b2) 1107 5 3] (Ax w b1 b2 l),[A6 l ns,(ch+1109,BM (B.refs cs) ce)],j+1109,tk⟩:=by
 induction aq with | @i kf q3 e0=>?_
 rcases cs with _ | ⟨c0,_ | ⟨c1,_ | ⟨c2,_ | ⟨c3,_ | ⟨c4,cs⟩⟩⟩⟩⟩
 ·simp at h2
 ·simp at h2
 ·exact Kj (c0:=B.b c0) (c1:=B.b c1) aI hk fun p h g hg al=>fin _ (j+1) _ (j+2) _ p h g LN.i hg al
 ·exact Kk (c0:=B.b c0) (c1:=B.b c1) (c2:=B.b c2) aI hk fun p h g hg al=>fin _ (j+1) _ (j+2) _ p h g LN.i hg al
 ·exact Kl (c0:=B.b c0) (c1:=B.b c1) (c2:=B.b c2) (c3:=B.b c3) aI hk fun p h g hg al=>fin _ (j+1) _ (j+2) _ p h g LN.i hg al
 ·simp at h4
theorem jL (h:n % 2=1) (t:Z us (A.foldl dS U)):Z us (kX (c+1) n U A):=by
 show Z us (if n % 2=1 then A.foldl dS U else A.foldl dT U)
 rw [if_pos h];exact t
theorem iM (h:n % 2=0) (t:Z us (A.foldl dT U)):Z us (kX (c+1) n U A):=by
 show Z us (if n % 2=1 then A.foldl dS U else A.foldl dT U)
 rw [if_neg (by lia)];exact t
theorem EN (hc:c=0->cs.length=1) (bD:cs≠[]) (h4:cs.length<=4) {q9 q10:Value}(hA:Z es A) (hB:Z fs Bk) (hU:Z us U) (hM:Z ms M) (kA:Ks A) (kB:Ks Bk) (kU:Ks U) (kM:Ks M)
  (z0:c=0->us=#[]/\up=0/\ms=#[]/\mp=0) (z1:c≠0->U≠[]/\M≠[]) (aq:LN (W2 w b1 b2) pl t me un (Bj a b ch q9 q10) ns) (aI:Pos) (hk:Y<=10)
  (fin:∀ H7 Ko H8 Kp vR j' aF p h g,Z H7 (kX c cs.length U A)->Z H8 (kX c cs.length M Bk)->AllBare g->ag (Ae w b1 b2) h₀ Y [A6 l ns,(ch+1109,BM (B.refs cs) vR),Aj du,Ac un du H7 Ko,Aj da,Ac a da es ep,Aj dm,Ac me dm H8 Kp,Aj db,Ac b db fs fp] (j'+1109) h->dx (Ae w b1 b2) R (ig (W2 w b1 b2) it l f2 p2 p3) (.done .next) p ⟨h,g,d,aF,os⟩):
  am (Ae w b1 b2) h₀ Y R d os ⟨ig (W2 w b1 b2) it l f2 p2 p3,aI,[],Bu w b1 b2 l,[A6 l ns,(ch+1109,BM (B.refs cs) ce),Aj du,Ac un du us up,Aj da,Ac a da es ep,Aj dm,Ac me dm ms mp,Aj db,Ac b db fs fp],j+1109,tk⟩:=by
 induction aq with | @i kf q3 e0=>?_
 have lA:=kA.len
 have lB:=kB.len
 have lU:=kU.len
 have lM:=kM.len
 have za:U.length+A.length<=sizeLine:=dz (by lia)
 have zb:M.length+Bk.length<=sizeLine:=dz (by lia)
 rcases c with _ | c
 ·obtain ⟨c0,rfl⟩:∃ k,cs=[k]:=List.length_eq_one_iff.mp (hc rfl)
  obtain ⟨rfl,rfl,rfl,rfl⟩:=z0 rfl
  exact H0 (c0:=B.b c0) hA hB (by lia) (by lia) aI hk fun x1 _ x2 _ p h g hg al=>fin _ _ _ _ _ _ _ p h g x1.hT x2.hT hg al
 ·obtain ⟨nU,nM⟩:=z1 (Nat.succ_ne_zero c)
  have pU:∀ {L:KV},L≠[]->L.length=(L.length - 1)+1:=fun {L} h=>by have:=List.length_pos_iff.mpr h;lia
  have vP:us.size=(U.length - 1)+1:=hU.size.trans (pU nU)
  have vQ:ms.size=(M.length - 1)+1:=hM.size.trans (pU nM)
  rcases cs with _ | ⟨c0,_ | ⟨c1,_ | ⟨c2,_ | ⟨c3,_ | ⟨c4,cs⟩⟩⟩⟩⟩
  ·exact absurd rfl bD
  ·exact J7 (c0:=B.b c0) hA hB hU hM za zb vP (by lia) vQ (by lia) aI hk fun x1 _ x2 _ p h g hg al=>fin _ _ _ _ _ _ _ p h g (jL (by simp) x1.hT) (jL (by simp) x2.hT) hg al
  ·exact J8 (c0:=B.b c0) (c1:=B.b c1) hA hB hU hM za zb aI hk fun x1 _ x2 _ p h g hg al=>fin _ _ _ _ _ _ _ p h g (iM (by simp) x1.hT) (iM (by simp) x2.hT) hg al
  ·exact J9 (c0:=B.b c0) (c1:=B.b c1) (c2:=B.b c2) hA hB hU hM za zb vP (by lia) vQ (by lia) aI hk fun x1 _ x2 _ p h g hg al=>fin _ _ _ _ _ _ _ p h g (jL (by simp) x1.hT) (jL (by simp) x2.hT) hg al
  ·exact Ka (c0:=B.b c0) (c1:=B.b c1) (c2:=B.b c2) (c3:=B.b c3) hA hB hU hM za zb aI hk fun x1 _ x2 _ p h g hg al=>fin _ _ _ _ _ _ _ p h g (iM (by simp) x1.hT) (iM (by simp) x2.hT) hg al
  ·simp at h4
end
end
section
variable {E:En}{h₀:Heap}{Y:Nat}{d:Drawn}{os:OsState}
noncomputable abbrev kI (e:Expr):Prop:=∀ it v,letOwnedTupleGo e it v=pure ()
theorem nr {Γ:Ctx}{target:Expr}{body aW:List Stmt}{env:Env}{R:Result->Shared->Prop}{m:Mm}{n tk:Nat}{h:Heap}{g:Array GenState}{ii it:Nat}{x left:Int}
  (ht:kI target) (aV:Γ.code=.forLoop target (.ref it) body aW env) (hg:E.G g) (hr:ag E h₀ Y m n h) (h1:ad m ii=some (it,aY x left 1)) (hl:0 < left)
  (w:∀ p,am E h₀ Y R d os ⟨Γ,p,[],eZ target (.ref it) (.int x tk) body aW env,cg m ii (aY (x+1) (left - 1) 1),n,tk+1⟩) (p:Pos):
  wpCode (Mo E) Γ R p ⟨h,g,d,tk,os⟩:=by
 refine (wpCode_iff_wp _ _ _ _ _).mpr ?_
 rw [aV]
 refine ju ?_
 refine Sem.wp_mono (Mo E) Γ _ (fun a p' s' h'=>?_) (fun e p' s' h'=>h') _ _ (bm (Q:=fun o s'=>o=some (.int x tk)/\∀ p,wp (Mo E) Γ (fj target (.ref it) (.int x tk) body aW env) (finPost (Mo E) Γ R) (fun e _ s'=>R (.error e) s') p s') (E:=fun _ _=>False) ?_ _)
 ·obtain ⟨rfl,h'⟩:=h';exact h' p'
 have hit:IsRangeIter h it x left 1:=hr.own _ _ _ h1
 refine wpAny_pyNext_range_item hit hl fun h' he hs=>⟨rfl,fun p=>?_⟩
 refine gc ?_
 rw [ht _ _]
 have r1:ag E h₀ Y (cg m ii (aY (x+1) (left - 1) 1)) n h':=
  hr.chg h1 he (hs.1.trans hr.size) (Nat.le_refl _) fun b x hb hx=>(hs.2 b hb).trans hx
 have z:=w p h' g hg r1
 rw [dO] at z
 rw [<- ev] at z
 exact z
end
section
variable {U:KV}{a be bg c ce ch da dm du j mp rp tk up:Nat}{cc:Option Value}{cs:List Nat}{g:Array GenState}{h:Heap}{left x:Int}{ms rs us:Array DictEntry}{ns:Obj}{p:Pos}
section
variable {d:Drawn}{os:OsState}{w:World}{b1 b2:Bool}{t me un l it:Nat}{pl:Bool}{B:BG}{f2:FN}{p2 p3:Pos}{h₀:Heap}{Y:Nat}{R:Result->Shared->Prop}
noncomputable abbrev sk (l it bg be du un dm me:Nat) (B:BG) (cc:Option Value) (ito ns:Obj) (us:Array DictEntry) (up:Nat) (ms:Array DictEntry) (mp:Nat) (r:Mm):Mm:=(l+1109,ns)::(l+1110,eu (some (.ref (bg+1109))))::(l+1111,eu cc)::(it+1109,ito)::(bg+1109,ac (bM B.b0 B.b1 B.b2 B.b3) be)::(du+1109,av)::(un+1109,ah (du+1109) us up)::(dm+1109,av)::(me+1109,ah (dm+1109) ms mp)::(B.d0+1109,av)::(B.b0+1109,ah (B.d0+1109) B.e0 B.p0)::(B.d1+1109,av)::(B.b1+1109,ah (B.d1+1109) B.e1 B.p1)::(B.d2+1109,av)::(B.b2+1109,ah (B.d2+1109) B.e2 B.p2)::(B.d3+1109,av)::(B.b3+1109,ah (B.d3+1109) B.e3 B.p3)::r
theorem H9 (hc:c < 15):(bu (c+1)).length<=4/\(∀ k∈bu (c+1),k < 4)/\bu (c+1)≠[]/\((c==0)=true->(bu (c+1)).length=1):=by
 have:∀ c:Fin 15,(bu (c.1+1)).length<=4/\(∀ k∈bu (c.1+1),k < 4)/\bu (c.1+1)≠[]/\((c.1==0)=true->(bu (c.1+1)).length=1):=by decide
 exact this ⟨c,hc⟩
theorem Cs (w:World):bj (ai w 1107 5)=[]++[az w 1107 5 0,az w 1107 5 1,B0 w,az w 1107 5 3,az w 1107 5 4,az w 1107 5 5]:=by kernel_rfl
theorem EO (w:World):kI (cn (ai w 1107 5)):=fun _ _=>by kernel_rfl
theorem Kq (f:Bool) {q6 q9 q10:Value}{P:KV->Prop}(hP:kg B P) (c7:∀ k∈cs,k < 4) (hf:f=true->cs.length=1) (hU:P U) (hT:Z rs U) (hQ:P (cs.foldl (fx B) U)) (aq:LN (W2 w b1 b2) pl t me un (tB f q6 (Aa a) (Aa ch) q9 q10) ns) (aI:Pos) (hk:Y<=12)
  (fin:∀ aQ q9 cf cS vR j' aF p h g,LN (W2 w b1 b2) pl t me un (tC f q6 (Aa a) (Aa ch) q9 q10) aQ->Z cf (cs.foldl (fx B) U)->AllBare g->ag (Ae w b1 b2) h₀ Y ((l+1109,aQ)::(ch+1109,BM (B.refs cs) vR)::(da+1109,av)::(a+1109,AP da cf cS)::B.m) (j'+1109) h->dx (Ae w b1 b2) R (ig (W2 w b1 b2) it l f2 p2 p3) (.done .next) p ⟨h,g,d,aF,os⟩):
  am (Ae w b1 b2) h₀ Y R d os ⟨ig (W2 w b1 b2) it l f2 p2 p3,aI,[],c9 [B0 (W2 w b1 b2)] (Ax w b1 b2 l),(l+1109,ns)::(ch+1109,BM (B.refs cs) ce)::(da+1109,av)::(a+1109,AP da rs rp)::B.m,j+1109,tk⟩:=by
 cases f with
 | true=>
  induction aq with | @i kf q3 e0=>?_
  exact H4 hP c7 hf hU hT hQ aI hk fun x _ p h g hg al=>by
   obtain ⟨q,hq⟩:=x.hN
   exact fin _ q _ _ _ _ _ p h g hq x.hT hg al
 | false=>
  induction aq with | @i kf q3 e0=>?_
  exact H5 hP c7 hU hT hQ aI hk fun x _ p h g hg al=>by
   obtain ⟨q,hq⟩:=x.hN
   exact fin _ q _ _ _ _ _ p h g hq x.hT hg al
theorem qK (hc:c < 15) (hB:∀ k,PM (B.F k)) (hx:x=Int.ofNat (c+1)) (Ia:0 < left) {q6 q7 q8 q9 q10:Value}
  (hT:Z us (fM B c)) (hM:Z ms (fN B c)) (z0:c=0->us=#[]/\up=0/\ms=#[]/\mp=0) (aq:LN (W2 w b1 b2) pl t me un (tA (c==0) q6 q7 q8 q9 q10) ns) (hk:Y<=17) (hg:AllBare g) (al:ag (Ae w b1 b2) h₀ Y (sk l it bg be du un dm me B cc (aY x left 1) ns us up ms mp []) (j+1109) h)
  (nx:∀ us up ms mp cc ns q8 q9 q10 a da b db es ep fs fp j tk h g p,Z us (fM B (c+1))->Z ms (fN B (c+1))->Z es (aC B (bu (c+1)))->Z fs (aR B (bu (c+1)))->LN (W2 w b1 b2) pl t me un (t5 (Aa b) (Aa a) q8 q9 q10) ns->AllBare g->ag (Ae w b1 b2) h₀ Y (sk l it bg be du un dm me B cc (aY (x+1) (left - 1) 1) ns us up ms mp [Aj da,Ac a da es ep,Aj db,Ac b db fs fp]) (j+1109) h->wpCode (Bf w b1 b2) (ig (W2 w b1 b2) it l f2 p2 p3) R p ⟨h,g,d,tk,os⟩):
  wpCode (Bf w b1 b2) (ig (W2 w b1 b2) it l f2 p2 p3) R p ⟨h,g,d,tk,os⟩:=by
 obtain ⟨h4,c7,bD,hf⟩:=H9 hc
 refine nr (ii:=3) (EO _) rfl hg al rfl Ia (fun pa=>d9 (Cs _) ?_) p
 subst hx
 refine am.sub [2] rfl (by decide) rfl fun h1 aj=>?_
 refine H3 pa (Nat.le_refl _) fun Ou h2 g2 ao aa=>?_
 have aS:=aj.join' [2] (by decide) rfl aa rfl
 intro pb
 refine cO (l:=[az (W2 w b1 b2) 1107 5 0]) ao aS ?_
 refine am.sub [0,1,2,4] rfl (by decide) rfl fun h1 aj=>?_
 refine EK (B:=B) hc aq pb (Nat.le_refl _) fun iB ch Ov j1 vS u7 h3 g3 gj dY bc=>?_
 have bl:=aj.join' [0,1,2,4] (by decide) rfl bc rfl
 clear aj aa aS bc al
 intro pc
 generalize qY:bu (c+1)=cs at *
 refine cO (l:=[az (W2 w b1 b2) 1107 5 1]) dY bl ?_
 refine am.sub [0,17] rfl (by decide) rfl fun h1 aj=>?_
 refine EL (B:=B) (c==0) hf h4 bD gj pc (Nat.le_refl _) fun qu da a j2 tk2 GJ Ow g4 fv gG cP=>?_
 have cQ:=aj.join' [0,17] (by decide) rfl cP rfl
 clear aj bl cP
 intro pd
 refine cO (l:=[az (W2 w b1 b2) 1107 5 2]) gG cQ ?_
 refine am.sub [0,17,18,19,9,10,11,12,13,14,15,16] rfl (by decide) rfl fun h1 aj=>?_
 refine Kq (B:=B) (c==0) (EI hB) c7 hf PU.nil ei (fg hB cs) fv pd (Nat.le_refl _) fun Ox EF es ep Oy j3 sn Oz h5 g5 Ct fX fY fw=>?_
 have eY:=aj.join' [0,17,18,19,9,10,11,12,13,14,15,16] (by decide) rfl fw rfl
 clear aj cQ fw
 intro pe
 have Gg:∀ Kr aQ q9 q10 ce db b fs fp j tk h g p,Z fs (aR B cs)->LN (W2 w b1 b2) pl t me un (t5 (.ref (b+1109)) (.ref (a+1109)) (.ref (ch+1109)) q9 q10) aQ->AllBare g->ag (E2 (W2 w b1 b2)) h₀ Y (sk l it bg be du un dm me B Kr (aY (Int.ofNat (c+1)+1) (left - 1) 1) aQ us up ms mp [(ch+1109,ac (B.refs cs) ce),(da+1109,av),(a+1109,ah (da+1109) es ep),(db+1109,av),(b+1109,ah (db+1109) fs fp)]) (j+1109) h->
   wp (Mo (E2 (W2 w b1 b2))) (ig (W2 w b1 b2) it l f2 p2 p3) (execs [az (W2 w b1 b2) 1107 5 5] (ab (W2 w b1 b2) l)) (gm (E2 (W2 w b1 b2)) (ig (W2 w b1 b2) it l f2 p2 p3) (ax (ai (W2 w b1 b2) 1107 5) (it+1109) (ab (W2 w b1 b2) l)) R) (fun _ _ _=>False) p ⟨h,g,d,tk,os⟩:=by
  intro Kr aQ q9 q10 ce db b fs fp j tk h g p dX cq bQ bk
  refine cO (l:=[az (W2 w b1 b2) 1107 5 5]) (rest:=[]) bQ bk ?_
  refine am.sub [0,17,5,6,20,21,7,8,18,19] rfl (by decide) rfl fun h1 aj=>?_
  refine EN (B:=B) (c:=c) (cs:=cs) (fun z=>hf (by subst z;rfl)) bD h4 dX fX hT hM (fy hB cs).1 (fg hB cs).1 (Cn hB c) (Co hB c) z0 (fun z=>?_) cq p (Nat.le_refl _) fun H7 Ko H8 Kp vR j' aF p' h' g' hu hm Kt Ib=>?_
  ·obtain ⟨c',rfl⟩:=Nat.exists_eq_succ_of_ne_zero z
   exact ⟨Cp hB c',Cq hB (by lia)⟩
  ·have aS:=(aj.join' [0,17,5,6,20,21,7,8,18,19] (by decide) rfl Ib rfl).pick [0,1,2,3,4,5,6,7,8,9,10,11,12,13,14,15,16,18,19,20,21] 17 (by decide) (by decide) hk rfl
   intro pz
   subst qY
   exact nx _ _ _ _ _ _ _ _ _ _ _ _ _ _ _ _ _ _ _ h' g' pz hu hm fX dX cq Kt aS
 rcases cs with _ | ⟨c0,_ | ⟨c1,cr⟩⟩
 ·exact absurd rfl bD
 ·refine cO (l:=[az (W2 w b1 b2) 1107 5 3]) fY eY ?_
  refine am.sub [0,17] rfl (by decide) rfl fun h1 aj=>?_
  refine EM (B:=B) (c==0) Ct pe (Nat.le_refl _) fun Ic j4 mR Nf h6 g6 nu so gW=>?_
  have sp:=aj.join' [0,17] (by decide) rfl gW rfl
  clear aj eY gW
  intro pf
  refine cO (l:=[az (W2 w b1 b2) 1107 5 4]) so sp ?_
  refine am.sub [0,17,9,10,11,12,13,14,15,16] rfl (by decide) rfl fun h1 aj=>?_
  induction nu with | @i kf q3 e0=>?_
  refine Gf (B:=B) (k0:=c0) (c7 c0 (List.mem_cons_self ..)) bD (tS hB) c7 (hB _) (fy hB [c0]) pf (Nat.le_refl _) fun x _ Ng h7 g7 Id sq=>?_
  obtain ⟨q,hq⟩:=x.hN
  have sr:=aj.join' [0,17,9,10,11,12,13,14,15,16] (by decide) rfl sq rfl
  intro pg
  exact Gg _ _ _ _ _ _ _ _ _ _ _ h7 g7 pg x.hT hq Id sr
 ·have f0:(c==0)=false:=by
   cases q:c==0 with
   | true=>exact absurd (hf q) (by simp)
   | false=>rfl
  rw [f0] at Ct
  refine cO (l:=[az (W2 w b1 b2) 1107 5 3]) fY eY ?_
  refine am.sub [0,17] rfl (by decide) rfl fun h1 aj=>?_
  refine Cr (B:=B) (by simp) h4 Ct pe (Nat.le_refl _) fun Ic oo oe j4 mR Nf h6 g6 nu so gW=>?_
  have sp:=aj.join' [0,17] (by decide) rfl gW rfl
  clear aj eY gW
  intro pf
  refine cO (l:=[az (W2 w b1 b2) 1107 5 4]) so sp ?_
  refine am.sub [0,20,9,10,11,12,13,14,15,16] rfl (by decide) rfl fun h1 aj=>?_
  induction nu with | @i kf q3 e0=>?_
  refine Gf (B:=B) (k0:=c0) (cs:=c1::cr) (c7 c0 (List.mem_cons_self ..)) (List.cons_ne_nil _ _) (tS hB) (fun k hk=>c7 k (List.mem_cons_of_mem _ hk)) (hB _) (fy hB (c0::c1::cr)) pf (Nat.le_refl _) fun x _ Ng h7 g7 Id sq=>?_
  obtain ⟨q,hq⟩:=x.hN
  have sr:=(aj.join' [0,20,9,10,11,12,13,14,15,16] (by decide) rfl sq rfl).pick [0,1,2,3,4,5,6,7,8,9,10,11,12,13,14,15,16,17,18,19,21,22] 17 (by decide) (by decide) hk rfl
  intro pg
  exact Gg _ _ _ _ _ _ _ _ _ _ _ h7 g7 pg x.hT hq Id sr
end
end
section
variable {d:Drawn}{os:OsState}{w:World}{b1 b2:Bool}{t me un l it:Nat}{pl:Bool}{B:BG}{f2:FN}{p2 p3:Pos}{h₀:Heap}{Y:Nat}{R:Result->Shared->Prop}
theorem Cu (hB:∀ k,PM (B.F k)) {bg be du dm:Nat}(hk:Y<=17)
  (fin:∀ us up ms mp cc ns q8 q9 q10 a da b db es ep fs fp ito j tk h g,Z us (fM B 15)->Z ms (fN B 15)->Z es (aC B (bu 15))->Z fs (aR B (bu 15))->LN (W2 w b1 b2) pl t me un (t5 (Aa b) (Aa a) q8 q9 q10) ns->AllBare g->ag (Ae w b1 b2) h₀ Y (sk l it bg be du un dm me B cc ito ns us up ms mp [Aj da,Ac a da es ep,Aj db,Ac b db fs fp]) (j+1109) h->R (.ok .next) ⟨h,g,d,tk,os⟩):
  ∀ (r c:Nat),c+r=14->∀ {x left:Int},x=Int.ofNat (c+1)->left=Int.ofNat (r+1)->∀ {up mp j tk:Nat}{us ms:Array DictEntry}{cc:Option Value}{ns:Obj}{q6 q7 q8 q9 q10:Value}{h:Heap}{g:Array GenState}{p:Pos},Z us (fM B c)->Z ms (fN B c)->(c=0->us=#[]/\up=0/\ms=#[]/\mp=0)->LN (W2 w b1 b2) pl t me un (tA (c==0) q6 q7 q8 q9 q10) ns->AllBare g->ag (Ae w b1 b2) h₀ Y (sk l it bg be du un dm me B cc (aY x left 1) ns us up ms mp []) (j+1109) h->
   wpCode (Bf w b1 b2) (ig (W2 w b1 b2) it l f2 p2 p3) R p ⟨h,g,d,tk,os⟩:=by
 intro r
 induction r with
 | zero=>
  intro c hc x left hx hl up mp j tk us ms cc ns q6 q7 q8 q9 q10 h g p hT hM z0 aq hg al
  obtain rfl:c=14:=hc
  refine qK (by lia) hB hx (by rw [hl];decide) hT hM z0 aq hk hg al fun us up ms mp cc ns q8 q9 q10 a da b db es ep fs fp j tk h g p hT hM fX dX aq hg al=>?_
  refine aD (E:=(E2 (W2 w b1 b2))) hg al ?_
  refine am.sub [3] rfl (by decide) rfl fun h1 aj=>?_
  refine Kb (by rw [hl];decide) p (Nat.le_refl _) fun x _ p2 h2 g2 ao aa=>?_
  exact fin _ _ _ _ _ _ _ _ _ _ _ _ _ _ _ _ _ _ (j+2) _ h2 g2 hT hM fX dX aq ao (aj.join' [3] (by decide) rfl aa rfl)
 | succ r ih=>
  intro c hc x left hx hl up mp j tk us ms cc ns q6 q7 q8 q9 q10 h g p hT hM z0 aq hg al
  refine qK (by lia) hB hx (by rw [hl];exact Int.ofNat_lt.mpr (Nat.succ_pos _)) hT hM z0 aq hk hg al fun us up ms mp cc ns q8 q9 q10 a da b db es ep fs fp j tk h g p hT hM fX dX aq hg al=>?_
  refine ih (c+1) (by lia) (by rw [hx];rfl) ?_ hT hM (fun z=>nomatch z) aq hg (al.pick [0,1,2,3,4,5,6,7,8,9,10,11,12,13,14,15,16] 17 (by decide) (by decide) hk rfl)
  rw [hl];simp only [Int.ofNat_eq_natCast];lia
structure vT (B:BG) (P:Nat->Nat->Obj->Prop) where
 us:Array DictEntry
 up:Nat
 ms:Array DictEntry
 mp:Nat
 cc:Option Value
 ns:Obj
 a:Nat
 da:Nat
 b:Nat
 db:Nat
 es:Array DictEntry
 ep:Nat
 fs:Array DictEntry
 fp:Nat
 ito:Obj
 hu:Z us (fM B 15)
 hm:Z ms (fN B 15)
 he:Z es (aC B (bu 15))
 hf:Z fs (aR B (bu 15))
 hN:P a b ns
 j:Nat
 tk:Nat
noncomputable def Nh (W:World) (pl:Bool) (t me un a b:Nat) (ns:Obj):Prop:=∃ q8 q9 q10,LN W pl t me un (t5 (.ref (b+1109)) (.ref (a+1109)) q8 q9 q10) ns
noncomputable def Ni (t me un l it bg be du dm:Nat) (pl:Bool) (q6 q7:Value) (B:BG) (hB:∀ k,PM (B.F k)) {ns:Obj}(aq:LN (W2 w b1 b2) pl t me un (t2 q6 q7) ns) (is:List Nat) (nd:is.Nodup) (hl:17=is.length):aL (E2 (W2 w b1 b2)) d os:=
 aL.sub (vT B (Nh (W2 w b1 b2) pl t me un)) ⟨_,0,_,0,none,_,0,0,0,0,_,0,_,0,av,bX _,bX _,bX _,bX _,⟨.none,.none,.none,oh _⟩,0,0⟩ (ax (ai (W2 w b1 b2) 1107 5) (it+1109) (ab (W2 w b1 b2) l)) [1] is (sk l it bg be du un dm me B none (aY 1 15 1) ns #[] 0 #[] 0 [])
  nd hl (fun _=>.next) (fun x=>sk l it bg be du un dm me B x.cc x.ito x.ns x.us x.up x.ms x.mp [(x.da+1109,av),(x.a+1109,ah (x.da+1109) x.es x.ep),(x.db+1109,av),(x.b+1109,ah (x.db+1109) x.fs x.fp)]) (fun x=>x.j+1109) (fun x=>x.tk) (fun _=>True) (fun x=>by rw [<- hl];rfl) (by
  intro Γ h g p n tk Q aV hc hg hr k
  refine sO aV hc fun f0 p0 p4=>?_
  obtain ⟨j,rfl⟩:=dn (i:=0) hr rfl
  exact Cu hB (hl▸Nat.le_refl _) (fun us up ms mp cc ns q8 q9 q10 a da b db es ep fs fp ito j tk h g hT hM fX dX aq hg al=>k ⟨us,up,ms,mp,cc,ns,a,da,b,db,es,ep,fs,fp,ito,hT,hM,fX,dX,⟨q8,q9,q10,aq⟩,j,tk⟩ trivial h g hg al) 14 0 rfl rfl rfl (q8:=.none) (q9:=.none) (q10:=.none) ei ei (fun _=>⟨rfl,rfl,rfl,rfl⟩) aq hg hr)
end
noncomputable def cL (o:Obj):Bool:=match o.cls with
 | .type s=>s=="tuple"
 | _=>false
noncomputable def gk:Mm->Mm->Prop
 | [],_=>True
 | x::m,y::m'=>(cL x.2=false∨y=x)/\gk m m'
 | _::_,[]=>False
theorem gk.at:∀ {m m':Mm}{i:Nat}{x:Addr×Obj},gk m m'->ad m i=some x->cL x.2=true->ad m' i=some x
 | [],_,i,x,_,e,_=>by cases e
 | x::m,y::m',0,z,h,e,t=>by
  cases e
  rcases h.1 with q | q
  ·rw [t] at q;cases q
  ·subst q;rfl
 | x::m,y::m',i+1,z,h,e,t=>gk.at (m:=m) (m':=m') h.2 e t
 | _::_,[],_,_,h,_,_=>h.elim
section
variable {E:En}{d:Drawn}{os:OsState}{h₀:Heap}{Y:Nat}
theorem aB.step {h h':Heap}{xs:Array Value}{L:KV}(p:aB E h xs L) {ck m':Mm}{k n n':Nat}(r:ag E h k ck n h) (r':ag E h k m' n' h') (hs:(m'.take k).map (·.1)=(ck.take k).map (·.1)) (ok:gk ck m'):aB E h' xs L:=by
 refine ⟨p.1,fun j x e=>?_⟩
 obtain ⟨a,t,u,e1,e2,e3⟩:=p.2 j x e
 refine ⟨a,t,u,e1,?_,e3⟩
 have gl:∀ (l:Mm) (i:Nat),ad l i=l[i]?:=by
  intro l
  induction l with
  | nil=>intro i;rfl
  | cons y l ih=>intro i;cases i with | zero=>rfl | succ i=>exact ih i
 by_cases hx:∃ i o',i < k/\ad m' i=some (a,o')
 ·obtain ⟨i,o',hi,hm⟩:=hx
  have h1:((m'.take k).map (·.1))[i]?=some a:=by
   rw [List.getElem?_map,List.getElem?_take,if_pos hi,<- gl,hm];rfl
  rw [hs,List.getElem?_map,List.getElem?_take,if_pos hi,<- gl] at h1
  cases q:ad ck i with
  | none=>rw [q] at h1;cases h1
  | some y=>
   rw [q] at h1
   obtain ⟨b,o⟩:=y
   have hb:b=a:=Option.some.inj h1
   subst hb
   have ho:=r.own i b o q
   rw [e2] at ho
   cases ho
   exact r'.own i b _ (ok.at q rfl)
 ·exact r'.keep a _ e2 fun i b o' hi hm hb=>hx ⟨i,o',hi,hb▸hm⟩
theorem ag.subT {m ck:Mm}{n:Nat}{h:Heap}(r:ag E h₀ Y m n h) (is:List Nat) (e:sel m is=ck) (nd:is.Nodup) (hl:aE ck=is.length) (ok:∀ i x,ad ck i=some x->cL x.2=false) {a:Addr}{v w:Value}(ha:h.get? a=some (de v w)) (ht:gL a E.mu=true∨E.T.get a=none):ag E h (is.length+1) (d7 ck (a,de v w)) n h:=by
 subst e
 have r1:=r.sub is (an hl) nd
 refine ⟨r1.size,r1.base,fun i b o q=>?_,fun i j b o1 o2 q1 q2=>?_,fun i b o q=>?_,fun b o q _=>q,r1.start,fun i b o hi q=>?_,?_,r1.lowT⟩
 ·rw [bf] at q
  split at q
  ·cases q;exact ha
  ·exact r1.own i b o q
 ·rw [bf] at q1 q2
  have na:∀ i o,ad (sel m is) i=some (a,o)->False:=fun i o q=>by
   have:=r1.own i a o q
   rw [ha] at this
   cases this
   have:=ok i _ q
   cases this
  split at q1
  ·next e1=>
   split at q2
   ·next e2=>rw [e1,e2]
   ·cases q1;exact (na _ _ q2).elim
  ·split at q2
   ·cases q2;exact (na _ _ q1).elim
   ·exact r1.apart i j b o1 o2 q1 q2
 ·rw [bf] at q
  split at q
  ·cases q;exact ht
  ·exact r1.off i b o q
 ·rw [bf] at q
  split at q
  ·next e1=>rw [hl] at e1;lia
  ·exact r1.fresh i b o (by lia) q
 ·rw [jV,hl];exact Nat.le_refl _
end
noncomputable def d6 (xs:Array Value) (ks:List Int):Prop:=xs.toList.map bJ=ks.map fun k=>Value.int k 0
theorem d6.nil:d6 #[] []:=rfl
theorem d6.push {xs:Array Value}{ks:List Int}(h:d6 xs ks) (k:Int) (t:Tok):d6 (xs.push (.int k t)) (ks++[k]):=by
 unfold d6 at *
 rw [Array.toList_push,List.map_append,List.map_append,h];rfl
noncomputable def ss (c:Code):Option (String×List Value):=match c with
 | .builtin id args=>match args with
  | ⟨pos,[]⟩=>some (id,pos)
  | _=>none
 | _=>none
theorem vU {c:Code}{id:String}{vs:List Value}(h:ss c=some (id,vs)):c=.builtin id ⟨vs,[]⟩:=by
 unfold ss at h
 split at h
 ·split at h
  ·cases h;rfl
  ·cases h
 ·cases h
theorem d6.at {xs:Array Value}{ks:List Int}(h:d6 xs ks) {y:Value}(hy:y∈xs):∃ k t,y=.int k t:=by
 have:bJ y∈xs.toList.map bJ:=List.mem_map_of_mem (Array.mem_toList_iff.mpr hy)
 rw [h] at this
 obtain ⟨k,_,e⟩:=List.mem_map.mp this
 obtain ⟨t,e⟩:=bx e.symm
 exact ⟨k,t,e⟩
noncomputable def mv (k:Int) (y:Value):Bool:=match y with | .int i _=>i==k | _=>false
theorem d6.any {ks:List Int}(k:Int):∀ {l:List Value},l.map bJ=ks.map (fun k=>Value.int k 0)->l.any (mv k)=decide (k∈ks):=by
 induction ks with
 | nil=>
  intro l h
  cases l with
  | nil=>simp
  | cons y l=>simp at h
 | cons a ks ih=>
  intro l h
  cases l with
  | nil=>simp at h
  | cons y l=>
   rw [List.map_cons,List.map_cons] at h
   injection h with h1 h2
   obtain ⟨t,rfl⟩:=bx h1
   rw [List.any_cons,ih h2]
   show ((a==k)||decide (k∈ks))=_
   by_cases e:a=k
   ·subst e;simp
   ·have e':¬ k=a:=fun q=>e q.symm
    simp [e,e']
section
variable {E:En}{d:Drawn}{os:OsState}
noncomputable def kJ (i l e:Nat) (xs:Array Value) (v:Value) (hn:xs.size<=1000):aL E d os:=
 aL.leaf Unit () (fun q=>(ss q.code,ad q.m i)) (some ("list.append",[.ref l,v]),some (l,ac xs e)) (fun _ _=>.none) (fun _ q=>cg q.m i (ac (xs.push v) (e+1))) (fun _ q=>q.n) (fun _ q=>q.tk) (fun _=>True) (by
  intro h₀ Y q Q h g e' hc hg hr kk
  obtain ⟨e1,e2⟩:=Prod.ext_iff.mp e'
  dsimp only at e1 e2
  have ho:=hr.own _ _ _ e2
  refine kH (hc.trans (vU e1)) entry_list_append (by decide+kernel) (PySem.list_append l xs e v (dz hn)) ⟨ho,?_⟩
  have hu:=Heap.get?_update_self (Obj.mapSeq fun Nj=>Nj.push v) ho rfl
  refine kk () trivial _ g hg (hr.chg e2 (hu.trans (congrArg some (Obj.mapSeq_push_plain xs e v))) (by show (Heap.update _ _ _).objs.size=q.n;rw [<- hr.size];simp [Heap.update]) (Nat.le_refl _) fun b x hb hx=>(Heap.get?_update_other _ _ (Ne.symm hb)).trans hx))
noncomputable def Gh (i l e:Nat) (xs:Array Value) {ks:List Int}(hI:d6 xs ks) (k:Int) (r:Bool) (aJ:decide (k∈ks)=r):aL E d os:=
 aL.leaf Unit () (fun q=>(cN q.code,ad q.m i)) (some ("list.__contains__",[.ref l,.int k 0]),some (l,ac xs e)) (fun _ _=>.bool r) (fun _ q=>q.m) (fun _ q=>q.n) (fun _ q=>q.tk) (fun _=>True) (by
  intro h₀ Y q Q h g e' hc hg hr kk
  obtain ⟨e1,e2⟩:=Prod.ext_iff.mp e'
  dsimp only at e1 e2
  obtain ⟨pos,e3,e4⟩:=cV e1
  obtain ⟨x,y,rfl,h2,h3⟩:=fm e4
  obtain rfl:=cx h2
  obtain ⟨u,rfl⟩:=bx h3
  refine kH (hc.trans e3) F.entry_list_contains (by decide+kernel) (SeqAt.list_containsAt l xs e none #[] (.int k u) (mv k)) ⟨hr.own _ _ _ e2,fun y hy=>?_,?_⟩
  ·obtain ⟨i,t,rfl⟩:=hI.at hy
   exact SeqAt.EqAt.int_int i t k u
  ·have:xs.any (mv k)=r:=by rw [<- Array.any_toList,<- aJ];exact d6.any k hI
   rw [this]
   exact kk () trivial h g hg hr)
noncomputable def Cv (i l:Nat) (o:Obj) (a b r:Int) (hr:max a b=r):aL E d os:=
 aL.leaf F9 ⟨0,0,0⟩ (fun q=>(mh q.code,ad q.m i,qy q)) (some (.builtin "max",[.int a 0,.int b 0]),some (l+1109,o),none,none,none,true) (fun x _=>.int r x.t) (fun _ q=>q.m) (fun x _=>x.j+1109) (fun x _=>x.tk) (fun _=>True) (by
  intro h₀ Y q Q h g e' hc hg eq kk
  obtain ⟨e1,e'⟩:=Prod.ext_iff.mp e'
  obtain ⟨e2,e3⟩:=Prod.ext_iff.mp e'
  dsimp only at e1 e2 e3
  obtain ⟨f',pos,e4,e5,e6⟩:=j8 e1
  obtain ⟨c1,l',qA⟩:=mi e3
  rw [hc.trans e4] at qA
  obtain ⟨x,y,rfl,h2,h3⟩:=fm e6
  obtain ⟨t,rfl⟩:=bx h2
  obtain ⟨u,rfl⟩:=bx h3
  have hf:f'=.builtin "max":=by
   cases f'<;>first | exact e5 | cases e5
  subst hf
  refine ji ?_
  refine jj qA ?_ rfl
  obtain ⟨j,hj⟩:=dn (i:=i) eq e2
  refine max_two_ints rfl fun h' tk hk=>?_
  intro hs
  have hn:h'.objs.size=(h'.objs.size - 1109)+1109:=by have:=eq.size;have:h.objs.size<=h'.objs.size:=hs;lia
  have hv:∃ t',(if b>a then Value.int b u else Value.int a t)=.int r t':=by
   by_cases z:b>a
   ·rw [if_pos z];exact ⟨u,by rw [<- hr];congr 1;lia⟩
   ·rw [if_neg z];exact ⟨t,by rw [<- hr];congr 1;lia⟩
  obtain ⟨t',hv⟩:=hv
  rw [hv]
  exact kk ⟨t',h'.objs.size - 1109,tk⟩ trivial h' g hg (eq.grow hn (by rw [<- hn,<- eq.size];exact hs) hk))
end
noncomputable def jM (e:Expr) (env:Env):Sem Fin:=R.bindR (Fast.tw15418851999007992765 e env (Fast.tw14044960220447912780 e env)) fun b=>.pure (.done (.ret (.bool b)))
theorem EP (e:Expr) (env:Env):jM e env=isTrue e env (eval e env)>>=fun b=>(.pure (.done (.ret (.bool b))):Sem Fin):=by
 unfold jM;rw [<- R.bindR_eq,<- Fast.te15418851999007992765,<- Fast.te14044960220447912780];rfl
noncomputable def oy (e:Expr) (env:Env):Sem Fin:=R.bindR (Fast.tw14044960220447912780 e env) fun v=>.pure (.done (.ret v))
theorem ER (e:Expr) (env:Env):oy e env=eval e env>>=fun v=>(.pure (.done (.ret v)):Sem Fin):=by
 unfold oy;rw [<- R.bindR_eq,<- Fast.te14044960220447912780];rfl
noncomputable def dq:Stmt->Expr | .If t _ _ _=>t | _=>default
noncomputable def gJ:Stmt->List Stmt | .If _ b _ _=>b | _=>[]
noncomputable abbrev nw (s:Stmt):Prop:=s=.If (dq s) (gJ s) [] s.pos
noncomputable def mw:Expr->Expr | .BoolOp _ (a::_) _=>a | _=>default
noncomputable def eU:Expr->Expr | .BoolOp _ (_::b::_) _=>b | _=>default
noncomputable abbrev Cw (s:Expr):Prop:=s=.BoolOp .And [mw s,eU s] s.pos
noncomputable abbrev Gi (s:Expr):Prop:=s=.BoolOp .Or [mw s,eU s] s.pos
noncomputable def dG (s:List Stmt) (i:Nat):Stmt:=s.getD i (.Pass ⟨0,0,0,0⟩)
noncomputable def b5:Stmt->Expr | .Return (some e) _=>e | _=>default
noncomputable def dN:Expr->Expr | .Compare l _ _ _=>l | _=>default
noncomputable def bT:Expr->Expr | .Compare _ _ (r::_) _=>r | _=>default
section
variable {E:En}{h₀:Heap}{Y:Nat}{d:Drawn}{os:OsState}{M:Model}{Γ:Ctx}{env:Env}{p:Pos}{s:Shared}
theorem ES {t:Expr}{b:List Stmt}{ps:Pos}{rest:List Stmt}{Q:Flow->Pos->Shared->Prop}{X:Value->Pos->Shared->Prop}
  (h:∀ p,wp M Γ (isTrue t env (eval t env)) (fun c p s=>match c with
   | true=>wp M Γ (execs (b++rest) env) Q X p s
   | false=>wp M Γ (execs rest env) Q X p s) X p s):wp M Γ (execs (.If t b [] ps::rest) env) Q X p s:=by
 show wp M Γ (exec (.If t b [] ps) env>>=fun f=>match f with | .next=>execs rest env | f=>pure f) Q X p s
 rw [Sem.wp_bind']
 show wp M Γ (standAt ps>>=fun _=>isTrue t env (eval t env)>>=fun c=>if c then execs b env else execs [] env) _ X p s
 simp only [Sem.wp_bind',Sem.wp_cmd_standAt]
 refine Sem.wp_mono M Γ _ (fun c p' s' h=>?_) (fun _ _ _ h=>h) _ _ (h ps)
 cases c with
 | true=>
  have h:wp M Γ (execs (b++rest) env) Q X p' s':=h
  have z:∀ (l:List Stmt) p s,wp M Γ (execs (l++rest) env) Q X p s->wp M Γ (execs l env) (fun f p s=>wp M Γ (match f with | .next=>execs rest env | f=>pure f) Q X p s) X p s:=by
   intro l
   induction l with
   | nil=>exact fun p s h=>h
   | cons a l ih=>
    intro p s h
    have h:wp M Γ (exec a env>>=fun f=>match f with | .next=>execs (l++rest) env | f=>pure f) Q X p s:=h
    show wp M Γ (exec a env>>=fun f=>match f with | .next=>execs l env | f=>pure f) _ X p s
    rw [Sem.wp_bind'] at h ⊢
    refine Sem.wp_mono M Γ _ (fun f p' s' h=>?_) (fun _ _ _ h=>h) _ _ h
    cases f with
    | next=>exact ih p' s' h
    | brk=>exact h
    | cont=>exact h
    | ret v=>exact h
  exact z b p' s' h
 | false=>exact h
theorem my {st:Stmt}{rest:List Stmt}{Q:Flow->Pos->Shared->Prop}{X:Value->Pos->Shared->Prop}(hs:nw st)
  (h:∀ p,wp M Γ (isTrue (dq st) env (eval (dq st) env)) (fun b p s=>match b with
   | true=>wp M Γ (execs (gJ st++rest) env) Q X p s
   | false=>wp M Γ (execs rest env) Q X p s) X p s):wp M Γ (execs (st::rest) env) Q X p s:=by
 rw [hs];exact ES h
theorem Cx {a b:Expr}{ps:Pos}{x:Sem Value}{Q:Bool->Pos->Shared->Prop}{X:Value->Pos->Shared->Prop}
  (h:wp M Γ (isTrue a env (eval a env)) (fun c p s=>match c with
   | true=>wp M Γ (isTrue b env (eval b env)) Q X p s
   | false=>Q false p s) X p s):wp M Γ (isTrue (.BoolOp .And [a,b] ps) env x) Q X p s:=by
 show wp M Γ (isTrue a env (eval a env)>>=fun t=>match BoolOp.And,t with
  | .And,false=>pure false
  | .Or,true=>pure true
  | _,_=>isTrue b env (eval b env)>>=fun t=>match BoolOp.And,t with
   | .And,false=>pure false
   | .Or,true=>pure true
   | _,_=>pure true) Q X p s
 rw [Sem.wp_bind']
 refine Sem.wp_mono M Γ _ (fun c p' s' h=>?_) (fun _ _ _ h=>h) _ _ h
 cases c with
 | false=>exact h
 | true=>
  show wp M Γ (isTrue b env (eval b env)>>=fun t=>_) Q X p' s'
  rw [Sem.wp_bind']
  refine Sem.wp_mono M Γ _ (fun c p' s' h=>?_) (fun _ _ _ h=>h) _ _ h
  cases c<;>exact h
theorem ET {e:Expr}{x:Sem Value}{Q:Bool->Pos->Shared->Prop}{X:Value->Pos->Shared->Prop}(he:Cw e)
  (h:wp M Γ (isTrue (mw e) env (eval (mw e) env)) (fun b p s=>match b with
   | true=>wp M Γ (isTrue (eU e) env (eval (eU e) env)) Q X p s
   | false=>Q false p s) X p s):wp M Γ (isTrue e env x) Q X p s:=by
 rw [he];exact Cx h
theorem EU {a b:Expr}{ps:Pos}{x:Sem Value}{Q:Bool->Pos->Shared->Prop}{X:Value->Pos->Shared->Prop}
  (h:wp M Γ (isTrue a env (eval a env)) (fun c p s=>match c with
   | true=>Q true p s
   | false=>wp M Γ (isTrue b env (eval b env)) Q X p s) X p s):wp M Γ (isTrue (.BoolOp .Or [a,b] ps) env x) Q X p s:=by
 show wp M Γ (isTrue a env (eval a env)>>=fun t=>match BoolOp.Or,t with
  | .And,false=>pure false
  | .Or,true=>pure true
  | _,_=>isTrue b env (eval b env)>>=fun t=>match BoolOp.Or,t with
   | .And,false=>pure false
   | .Or,true=>pure true
   | _,_=>pure false) Q X p s
 rw [Sem.wp_bind']
 refine Sem.wp_mono M Γ _ (fun c p' s' h=>?_) (fun _ _ _ h=>h) _ _ h
 cases c with
 | true=>exact h
 | false=>
  show wp M Γ (isTrue b env (eval b env)>>=fun t=>_) Q X p' s'
  rw [Sem.wp_bind']
  refine Sem.wp_mono M Γ _ (fun c p' s' h=>?_) (fun _ _ _ h=>h) _ _ h
  cases c<;>exact h
theorem Ie {e:Expr}{x:Sem Value}{Q:Bool->Pos->Shared->Prop}{X:Value->Pos->Shared->Prop}(he:Gi e)
  (h:wp M Γ (isTrue (mw e) env (eval (mw e) env)) (fun b p s=>match b with
   | true=>Q true p s
   | false=>wp M Γ (isTrue (eU e) env (eval (eU e) env)) Q X p s) X p s):wp M Γ (isTrue e env x) Q X p s:=by
 rw [he];exact EU h
noncomputable def Nk (Q:Bool->Pos->Shared->Prop) (X:Value->Pos->Shared->Prop):Result->Shared->Prop
 | .ok (.ret (.bool b)),s=>∀ p,Q b p s
 | .ok _,_=>False
 | .error e,s=>∀ p,X e p s
theorem jN {e:Expr}{Q:Bool->Pos->Shared->Prop}{X:Value->Pos->Shared->Prop}{m:Mm}{n tk:Nat}{h:Heap}{g:Array GenState}(hg:E.G g) (hr:ag E h₀ Y m n h)
  (w:am E h₀ Y (Nk Q X) d os ⟨Γ,p,[],jM e env,m,n,tk⟩):wp (Mo E) Γ (isTrue e env (eval e env)) Q X p ⟨h,g,d,tk,os⟩:=by
 have z:=w h g hg hr
 rw [dO] at z
 rw [EP,Sem.wp_bind'] at z
 exact Sem.wp_mono _ _ _ (fun f p' s' h=>h p') (fun e p' s' h=>h p') _ _ z
noncomputable def Nl (Q:Value->Pos->Shared->Prop) (X:Value->Pos->Shared->Prop):Result->Shared->Prop
 | .ok (.ret v),s=>∀ p,Q v p s
 | .ok _,_=>False
 | .error e,s=>∀ p,X e p s
theorem iN {e:Expr}{Q:Value->Pos->Shared->Prop}{X:Value->Pos->Shared->Prop}{m:Mm}{n tk:Nat}{h:Heap}{g:Array GenState}(hg:E.G g) (hr:ag E h₀ Y m n h)
  (w:am E h₀ Y (Nl Q X) d os ⟨Γ,p,[],oy e env,m,n,tk⟩):wp (Mo E) Γ (eval e env) Q X p ⟨h,g,d,tk,os⟩:=by
 have z:=w h g hg hr
 rw [dO] at z
 rw [ER,Sem.wp_bind'] at z
 exact Sem.wp_mono _ _ _ (fun f p' s' h=>h p') (fun e p' s' h=>h p') _ _ z
end
section
variable {a aA cl e0 ep he hi i it j kt l m0 me t t1 tk un vt xe:Nat}{b1 b2 pl r:Bool}{d:Drawn}{es:Array DictEntry}{f0 f1:FL}{f2:FN}{hs xs:Array Value}{k kv v vv:Int}{p0 p1 p2 p3:Pos}{w:World}
theorem Ku {os:OsState}{t2:Nat}(hx:hs[i]?=some (.ref a)) (hn:xs.size<=1000):
  Qw w b1 b2 d os fun W=>⟨E2 W,5,⟨(bq (bT (eU (dq (dG (bj (az W 1107 7 0)) 0)))) (it+1109) (aA+1109) (bo (bT (eU (dq (dG (bj (az W 1107 7 0)) 0)))) (ab W l) (cl+1109))),none,none,[(fl f0,p0),(fl f1,p1),(fn f2,p2),(CC,p3)],none⟩,den (bq (bT (eU (dq (dG (bj (az W 1107 7 0)) 0)))) (it+1109) (aA+1109) (bo (bT (eU (dq (dG (bj (az W 1107 7 0)) 0)))) (ab W l) (cl+1109))),[(hi+1109,ac hs he),(it+1109,ba (hi+1109) i),(aA+1109,ac xs xe),(cl+1109,av),(a,de (.int kv t1) (.int vv t2))],j+1109,tk,.u (cX 1 0 (it+1109) (hi+1109) i he hs (.ref a) hx)<| .u (kJ 2 (aA+1109) xe xs (.int kv t1) hn)<| .e (.e (.again (bq (bT (eU (dq (dG (bj (az W 1107 7 0)) 0)))) (it+1109) (aA+1109) (bo (bT (eU (dq (dG (bj (az W 1107 7 0)) 0)))) (ab W l) (cl+1109)))) [(hi+1109,(ac hs he)),(it+1109,(ba (hi+1109) (i+1))),(aA+1109,(ac (xs.push (Value.int kv t1)) (xe+1))),(cl+1109,au #[ak W jG tk (.ref a)] 1),(a,(de (.int kv t1) (.int vv t2)))] (j+1109) (tk+2))⟩:=nX 90 [2,0,2,1] [(Hx 0x11305050555444),[]] [] 90 [2,0,2,1] [(Hx 0x11305050555444),[]] [] (by kernel_rfl)
theorem Kv {os:OsState}{t2:Nat}{q0:Value}(hx:hs[i]?=some (.ref a)) (hn:xs.size<=1000):
  Qw w b1 b2 d os fun W=>⟨E2 W,5,⟨(bq (bT (eU (dq (dG (bj (az W 1107 7 0)) 0)))) (it+1109) (aA+1109) (bo (bT (eU (dq (dG (bj (az W 1107 7 0)) 0)))) (ab W l) (cl+1109))),none,none,[(fl f0,p0),(fl f1,p1),(fn f2,p2),(CC,p3)],none⟩,den (bq (bT (eU (dq (dG (bj (az W 1107 7 0)) 0)))) (it+1109) (aA+1109) (bo (bT (eU (dq (dG (bj (az W 1107 7 0)) 0)))) (ab W l) (cl+1109))),[(hi+1109,ac hs he),(it+1109,ba (hi+1109) i),(aA+1109,ac xs xe),(cl+1109,au #[ak W jG m0 q0] e0),(a,de (.int kv t1) (.int vv t2))],j+1109,tk,.u (cX 1 0 (it+1109) (hi+1109) i he hs (.ref a) hx)<| .u (kJ 2 (aA+1109) xe xs (.int kv t1) hn)<| .e (.e (.again (bq (bT (eU (dq (dG (bj (az W 1107 7 0)) 0)))) (it+1109) (aA+1109) (bo (bT (eU (dq (dG (bj (az W 1107 7 0)) 0)))) (ab W l) (cl+1109)))) [(hi+1109,(ac hs he)),(it+1109,(ba (hi+1109) (i+1))),(aA+1109,(ac (xs.push (Value.int kv t1)) (xe+1))),(cl+1109,au #[ak W jG m0 (.ref a)] e0),(a,(de (.int kv t1) (.int vv t2)))] (j+1109) (tk+2))⟩:=nX 90 [2,0,2,1] [(Hx 0x11305050555444),[]] [] 90 [2,0,2,1] [(Hx 0x11305050555444),[]] [] (by kernel_rfl)
theorem Kw {os:OsState}(hx:hs.size<=i):
  Qw w b1 b2 d os fun W=>⟨E2 W,2,⟨(bq (bT (eU (dq (dG (bj (az W 1107 7 0)) 0)))) (it+1109) (aA+1109) (bo (bT (eU (dq (dG (bj (az W 1107 7 0)) 0)))) (ab W l) (cl+1109))),none,none,[(fl f0,p0),(fl f1,p1),(fn f2,p2),(CC,p3)],none⟩,den (bq (bT (eU (dq (dG (bj (az W 1107 7 0)) 0)))) (it+1109) (aA+1109) (bo (bT (eU (dq (dG (bj (az W 1107 7 0)) 0)))) (ab W l) (cl+1109))),[(hi+1109,ac hs he),(it+1109,ba (hi+1109) i)],j+1109,tk,.c (fU 1 0 (it+1109) (hi+1109) i he hs hx) fun x1=>.e (.e (.done .next) [(hi+1109,(ac hs he)),(it+1109,(x1))] (j+1111) tk)⟩:=bU 68 [2,0,2,1] [[4]] [] (by kernel_rfl)
theorem Kx {kf:Nat->Nat}{os:OsState}{q3 q6 q7 q8 q9 q10 aH aK q13:Value}:
  Qv w b1 b2 pl d os fun W pl=>⟨E2 W,1,⟨(ax (az W 1107 7 0) (it+1109) (ab W l)),none,none,[(fl f1,p1),(fn f2,p2),(CC,p3)],none⟩,ic (cn (az W 1107 7 0)) (.int k kt) [] (ab W l),[(l+1109,bB W pl t me un kf q3 (t8 q6 q7 q8 q9 q10 aH aK q13) e0)],j+1109,tk,.e (.e (.done .next) [(l+1109,bB W pl t me un (uf kf 13 tk) q3 (t9 q6 q7 q8 q9 q10 aH aK q13 (.int k kt)) (e0+1))] (j+1109) (tk+1))⟩:=b7 68 [1,1] [] [] (by kernel_rfl)
theorem Ky {kf:Nat->Nat}{os:OsState}{q3 q6 q7 q8 q9 q10 aH aK q13 q14:Value}:
  Qv w b1 b2 pl d os fun W pl=>⟨E2 W,1,⟨(ax (az W 1107 7 0) (it+1109) (ab W l)),none,none,[(fl f1,p1),(fn f2,p2),(CC,p3)],none⟩,ic (cn (az W 1107 7 0)) (.int k kt) [] (ab W l),[(l+1109,bB W pl t me un kf q3 (t9 q6 q7 q8 q9 q10 aH aK q13 q14) e0)],j+1109,tk,.e (.e (.done .next) [(l+1109,bB W pl t me un kf q3 (t9 q6 q7 q8 q9 q10 aH aK q13 (.int k kt)) e0)] (j+1109) (tk+1))⟩:=b7 68 [1,1] [] [] (by kernel_rfl)
theorem tV {kf:Nat->Nat}{os:OsState}{q3 q6 q7 q8 q9 q10 aH aK:Value}(jO:IntKeys es) (hf:findBy Value.isInt es k=some (.int v vt)) (hr:decide (v>0)=r):
  Qv w b1 b2 pl d os fun W pl=>⟨E2 W,2,⟨(ax (az W 1107 7 0) (it+1109) (ab W l)),none,none,[(fl f1,p1),(fn f2,p2),(CC,p3)],none⟩,jM (mw (dq (dG (bj (az W 1107 7 0)) 0))) (ab W l),[(l+1109,bB W pl t me un kf q3 (t9 q6 q7 q8 q9 q10 aH aK (.ref (a+1109)) (.int k kt)) e0),(a+1109,au es ep)],j+1109,tk,.u (bK 1 (a+1109) (au es ep) es ep rfl jO k (.int v vt) hf)<| .u (jz v 0 r hr)<| .e (.e (.done (.ret (.bool r))) [(l+1109,(bB W pl t me un kf q3 (t9 q6 q7 q8 q9 q10 aH aK (.ref (a+1109)) (.int k kt)) e0)),(a+1109,(au es ep))] (j+1109) (tk+2))⟩:=b7 79 [1,1,2,2,2,0,2,1] [[0,1],[]] [] (by kernel_rfl)
end
section
variable {As:List Nat}{E:En}{H L:KV}{W:World}{aA cl he hi i it k l n:Nat}{f0 f1:FL}{f2:FN}{h h':Heap}{hs xs:Array Value}{m:Mm}{o:Obj}{p0 p1 p2 p3:Pos}
section
variable {E:En}{h₀:Heap}{Y:Nat}
theorem ag.forget {x:Addr×Obj}(r:ag E h (k+1) (d7 m x) n h') (hl:aE m=k) (hx:h.get? x.1=some x.2):ag E h k m n h':=by
 have up:∀ i y,ad m i=some y->ad (d7 m x) i=some y:=fun i y q=>by
  rw [bf]
  split
  ·next e=>
   have z:∀ (m:Mm),ad m (aE m)=none:=by
    intro m
    induction m with
    | nil=>rfl
    | cons y m ih=>exact ih
   rw [e,z] at q;cases q
  ·exact q
 have lt:∀ i y,ad m i=some y->i < k:=fun i y q=>by
  subst hl
  have z:∀ (m:Mm) (i:Nat) y,ad m i=some y->i < aE m:=by
   intro m
   induction m with
   | nil=>intro i y q;cases q
   | cons y m ih=>
    intro i z q
    cases i with
    | zero=>exact Nat.succ_pos _
    | succ i=>exact Nat.succ_lt_succ (ih i z q)
  exact z m i y q
 have Kz:ad (d7 m x) k=some x:=by rw [bf,if_pos hl.symm]
 refine ⟨r.size,r.base,fun i a o q=>r.own i a o (up i _ q),fun i j a o o' q1 q2=>r.apart i j a o o' (up i _ q1) (up j _ q2),fun i a o q=>r.off i a o (up i _ q),fun b o q z=>?_,r.start,fun i a o hi q=>absurd (lt i _ q) (Nat.not_lt.mpr hi),by rw [hl];exact Nat.le_refl _,r.lowT⟩
 by_cases e:b=x.1
 ·subst e
  rw [hx] at q
  cases q
  exact r.own k x.1 x.2 Kz
 ·refine r.keep b o q fun i a o' hi hm=>?_
  rw [bf] at hm
  split at hm
  ·cases hm;exact fun q=>e q.symm
  ·exact z i a o' (lt i _ hm) hm
end
noncomputable def bN:Mm->Prop
 | []=>True
 | x::m=>cL x.2=false/\bN m
theorem bN.at:∀ {m:Mm},bN m->∀ i x,ad m i=some x->cL x.2=false
 | [],_,i,x,e=>by cases e
 | y::m,h,0,x,e=>by cases e;exact h.1
 | y::m,h,i+1,x,e=>bN.at (m:=m) h.2 i x e
theorem bN.step:∀ {m m':Mm},bN m->m.length<=m'.length->gk m m'
 | [],_,_,_=>by unfold gk;trivial
 | x::m,[],_,h=>absurd h (by simp)
 | x::m,y::m',h,hl=>⟨.inl h.1,bN.step h.2 (Nat.le_of_succ_le_succ hl)⟩
section
variable {d:Drawn}{os:OsState}{w:World}{b1 b2:Bool}{h₀:Heap}{Y:Nat}{R:Result->Shared->Prop}
noncomputable abbrev KA (w:World):Expr:=bT (eU (dq (dG (bj (az w 1107 7 0)) 0)))
noncomputable abbrev Ig (w:World) (l it aA cl:Nat):Code:=bq (KA w) (it+1109) (aA+1109) (bo (KA w) (ab w l) (cl+1109))
noncomputable def qL (W:World) (i:Nat) (o:Obj):Prop:=(i=0/\o=av)∨(0 < i/\∃ m0 q0 e0,o=au #[ak W jG m0 q0] e0)
theorem f7:cL av=false:=by kernel_rfl
theorem c8 (es:Array DictEntry) (ep:Nat):cL (au es ep)=false:=by kernel_rfl
theorem bI (xs:Array Value) (e:Nat):cL (BM xs e)=false:=by kernel_rfl
theorem gY (l i:Nat):cL (ba l i)=false:=by kernel_rfl
theorem jP (es:List DictEntry) (ep:Nat):cL (aN es ep)=false:=by kernel_rfl
theorem qL.t (h:qL W i o):cL o=false:=by
 rcases h with ⟨_,rfl⟩ | ⟨_,_,_,_,rfl⟩
 ·exact f7
 ·exact c8 _ _
theorem Cy (hk:Y<=4) (hn:H.length<=1000):
  ∀ (ay:KV) (i:Nat),H.drop i=ay->∀ (xs:Array Value) (xe:Nat) (ns:Obj) (j tk:Nat) (h:Heap) (g:Array GenState) (p:Pos),xs.size<=i->i<=H.length->d6 xs ((H.take i).map (·.1))->qL (W2 w b1 b2) i ns->aB (Ae w b1 b2) h hs H->AllBare g->ag (Ae w b1 b2) h₀ Y [AR hi hs he,(it+1109,Bd hi i),AR aA xs xe,A6 cl ns] (j+1109) h->
   (∀ xs xe ns ito j tk h g,d6 xs (H.map (·.1))->qL (W2 w b1 b2) H.length ns->AllBare g->ag (Ae w b1 b2) h₀ Y [AR hi hs he,A6 it ito,AR aA xs xe,A6 cl ns] (j+1109) h->R (.ok .next) ⟨h,g,d,tk,os⟩)->
   wpCode (Bf w b1 b2) ⟨Ig (W2 w b1 b2) l it aA cl,none,none,[(fl f0,p0),(fl f1,p1),(fn f2,p2),(CC,p3)],none⟩ R p ⟨h,g,d,tk,os⟩:=by
 intro ay
 induction ay with
 | nil=>
  intro i bv xs xe ns j tk h g p Nm Gj hI aq hP hg al fin
  have hl:H.length<=i:=by
   have:=congrArg List.length bv
   simp at this;lia
  refine aD (E:=(E2 (W2 w b1 b2))) hg al ?_
  refine am.sub [0,1] rfl (by decide) rfl fun h1 aj=>?_
  refine Kw (by rw [hP.1];exact hl) p (Nat.le_refl _) fun x _ p2 h2 g2 ao aa=>?_
  rw [List.take_of_length_le hl] at hI
  obtain rfl:i=H.length:=Nat.le_antisymm Gj hl
  exact fin _ _ _ _ (j+2) _ h2 g2 hI aq ao (aj.join' [0,1] (by decide) rfl aa rfl)
 | cons x ay ih=>
  intro i bv xs xe ns j tk h g p Nm Gj hI aq hP hg al fin
  have hx:H[i]?=some x:=by
   have:=congrArg (fun l=>l[0]?) bv
   simpa using this
  have Cz:H.drop (i+1)=ay:=by
   have:=congrArg List.tail bv
   simpa using this
  have cv:i < H.length:=(List.getElem?_eq_some_iff.mp hx).1
  obtain ⟨a,t,u,e1,e2,e3⟩:=hP.2 i x hx
  have r0:=al.subT [0,1,2,3] rfl (by decide) rfl (bN.at (m:=[(hi+1109,ac hs he),(it+1109,ba (hi+1109) i),(aA+1109,ac xs xe),(cl+1109,ns)]) ⟨bI _ _,gY _ _,bI _ _,aq.t,trivial⟩) e2 e3
  have go:∀ (aQ:Obj) (pz:Pos) (h2:Heap) (g2:Array GenState) (tk:Nat),qL (W2 w b1 b2) (i+1) aQ->AllBare g2->ag (E2 (W2 w b1 b2)) h 5 [(hi+1109,ac hs he),(it+1109,ba (hi+1109) (i+1)),(aA+1109,ac (xs.push (.int x.1 t)) (xe+1)),(cl+1109,aQ),(a,de (.int x.1 t) (.int x.2 u))] (j+1109) h2->
    wpCode (Mo (E2 (W2 w b1 b2))) ⟨Ig (W2 w b1 b2) l it aA cl,none,none,[(fl f0,p0),(fl f1,p1),(fn f2,p2),(CC,p3)],none⟩ R pz ⟨h2,g2,d,tk,os⟩:=by
   intro aQ pz h2 g2 tk cq ao aa
   have aS:=ag.forget (m:=[(hi+1109,ac hs he),(it+1109,ba (hi+1109) (i+1)),(aA+1109,ac (xs.push (.int x.1 t)) (xe+1)),(cl+1109,aQ)]) aa rfl e2
   have bc:=al.join' [0,1,2,3] (by decide) rfl aS rfl
   have Nn:=hP.step r0 aa rfl ⟨.inl (bI _ _),.inl (gY _ _),.inl (bI _ _),.inl aq.t,.inr rfl,trivial⟩
   refine ih (i+1) Cz _ _ _ _ _ h2 g2 pz (by rw [Array.size_push];lia) cv ?_ cq Nn ao bc fin
   have:(H.take (i+1)).map (·.1)=(H.take i).map (·.1)++[x.1]:=by
    rw [List.take_succ,hx,List.map_append];rfl
   rw [this]
   exact hI.push _ _
  refine aD (E:=(E2 (W2 w b1 b2))) (h₀:=h) (Y:=5) hg r0 ?_
  rcases aq with ⟨_,rfl⟩ | ⟨_,m0,q0,e0,rfl⟩
  ·exact Ku e1 (by lia) p (Nat.le_refl _) fun p2 h2 g2 ao aa=>go _ p2 h2 g2 _ (.inr ⟨Nat.succ_pos _,_,_,_,rfl⟩) ao aa
  ·exact Kv e1 (by lia) p (Nat.le_refl _) fun p2 h2 g2 ao aa=>go _ p2 h2 g2 _ (.inr ⟨Nat.succ_pos _,_,_,_,rfl⟩) ao aa
structure No (ks:List Int) where
 xs:Array Value
 xe:Nat
 hI:d6 xs ks
 m0:Nat
 q0:Value
 e0:Nat
 ito:Obj
 j:Nat
 tk:Nat
noncomputable def lh (E:En) (h:Heap) (As:List Nat) (xs:Array Value) (L:KV):Prop:=aB E h xs L/\∀ a,Value.ref a∈xs->a ∉ As
theorem lh.keep (p:lh E h As xs L) (r:ag E h k m n h') (ha:∀ i a o,i < k->ad m i=some (a,o)->a∈As):aB E h' xs L:=by
 refine ⟨p.1.1,fun j x e=>?_⟩
 obtain ⟨a,t,u,e1,e2,e3⟩:=p.1.2 j x e
 exact ⟨a,t,u,e1,r.keep a _ e2 fun i b o hi hm hb=>p.2 a (Array.mem_of_getElem? e1) (hb▸ha i b o hi hm),e3⟩
noncomputable def KB (W:World) (b:Bool) (m0:Nat) (q0:Value) (e0:Nat):Obj:=@Bool.rec (fun _=>Obj) (au #[ak W jG m0 q0] e0) av b
noncomputable def KC (b:Bool) (l hi it aA cl he:Nat) (hs:Array Value) {H:KV}(hn:H.length<=1000) (hb:H.isEmpty=b):CH (E2 (W2 w b1 b2)) d os where
 X:=No (H.map (·.1))
 x0:=⟨((H.map (·.1)).map fun k=>Value.int k 0).toArray,0,by unfold d6;simp [bJ],0,.none,0,av,0,0⟩
 L:=_
 look q:=(q.code,([1,2,3,4]:List Nat).map (ad q.m),eb q.Γ,(ad q.m 0).map (·.1))
 v:=(Ig (W2 w b1 b2) l it aA cl,([(hi+1109,ac hs he),(it+1109,ba (hi+1109) 0),(aA+1109,ac #[] 0),(cl+1109,av)]:Mm).map some,(none,none,none,[2,2,1],some CC),some (l+1109))
 ans x q:=⟨.pure (.done .next),q.p,cW q.m [1,2,3,4] [(hi+1109,ac hs he),(it+1109,x.ito),(aA+1109,ac x.xs x.xe),(cl+1109,KB (W2 w b1 b2) b x.m0 x.q0 x.e0)],x.j+1109,x.tk,[]⟩
 says _:=True
 gd h₀ Y:=Y<=2/\lh (E2 (W2 w b1 b2)) h₀ [l+1109,hi+1109] hs H
 holds:=by
  intro h₀ Y ⟨hk,hP⟩ hh q Q h g e hc hg hr kk
  obtain ⟨e1,e⟩:=Prod.ext_iff.mp e
  obtain ⟨e2,e⟩:=Prod.ext_iff.mp e
  obtain ⟨e3,e4⟩:=Prod.ext_iff.mp e
  dsimp only at e1 e2 e3 e4
  have es:=eA e2
  have fA:aE (sel q.m [1,2,3,4])=4:=by rw [es];rfl
  have dD:=hr.sub [1,2,3,4] (an fA) (by decide)
  rw [es] at dD
  have g1:ad q.m 1=some (hi+1109,ac hs he):=by
   have:=congrArg (fun l=>l[0]?) e2
   exact Option.some.inj this
  have dZ:aB (E2 (W2 w b1 b2)) h hs H:=hP.keep hr fun i a o bv hm=>by
   have:i=0∨i=1:=by lia
   rcases this with rfl | rfl
   ·rw [hm] at e4;cases e4;exact List.mem_cons_self ..
   ·rw [hm] at g1;cases g1;exact List.mem_cons_of_mem _ (List.mem_cons_self ..)
  refine lR (hc.trans e1) e3 fun f0 f1 f2 p0 p1 p2 p3=>?_
  obtain ⟨j,hj⟩:=dn (i:=0) dD rfl
  rw [hj] at dD
  exact Cy (Nat.le_refl _) hn H 0 rfl #[] 0 av j q.tk h g q.p (Nat.le_refl _) (Nat.zero_le _) d6.nil (.inl ⟨rfl,rfl⟩) dZ hg dD fun xs xe ns ito j tk h g hI aq hg al=>by
   obtain ⟨m0,q0,e0,rfl⟩:∃ m0 q0 e0,ns=KB (W2 w b1 b2) b m0 q0 e0:=by
    rcases aq with ⟨z,rfl⟩ | ⟨z,m0,q0,e0,rfl⟩
    ·have:b=true:=by rw [<- hb,List.length_eq_zero_iff.mp z];rfl
     subst this;exact ⟨0,.none,0,rfl⟩
    ·have:b=false:=by
      rw [<- hb]
      cases H with
      | nil=>simp at z
      | cons _ _=>rfl
     subst this;exact ⟨m0,q0,e0,rfl⟩
   have z:=kk ⟨xs,xe,hI,m0,q0,e0,ito,j,tk⟩ trivial h g hg (hr.join' [1,2,3,4] (by decide) fA al (by rw [es];rfl))
   exact z
end
end
section
variable {d:Drawn}{os:OsState}{w:World}{b1 b2:Bool}
noncomputable def KD (j0 tk0 t t0 t1 t2 t3 te kt ep0 ep1 ep2 ep3:Nat) (k:Int) (es0 es1 es2 es3:Array DictEntry) {A0 A1 A2 A3:KV}(h0:Z es0 A0) (h1:Z es1 A1) (h2:Z es2 A2) (h3:Z es3 A3) (is:List Nat) (nd:is.Nodup) (hl:5=is.length):aL (Ae w b1 b2) d os where
 X:=JW
 x0:=⟨0,0,0,0⟩
 L:=_
 look q:=(q.code,is.map (ad q.m),eb q.Γ,q.n,q.tk)
 v:=(.call (.ref 1102) ⟨[.ref (t+1109),.int k kt],[]⟩,([Bc t t0 t1 t2 t3 te,Ar t0 es0 ep0,Ar t1 es1 ep1,Ar t2 es2 ep2,Ar t3 es3 ep3]:Mm).map some,(none,none,none,[2,2,1],some CC),j0+1109,tk0)
 ans x q:=⟨.pure (.done (.ret (.ref (j0+1112)))),q.p,cW q.m is [Bc t t0 t1 t2 t3 te,Ar t0 es0 ep0,Ar t1 es1 ep1,Ar t2 es2 ep2,Ar t3 es3 ep3,(j0+1112,ac #[.int (ct A0 k) x.t0,.int (ct A1 k) x.t1,.int (ct A2 k) x.t2,.int (ct A3 k) x.t3] 4)],j0+1116,tk0+13,[]⟩
 says _:=True
 holds:=by
  intro h₀ Y hs q Q h g e hc hg hr kk
  obtain ⟨e1,e⟩:=Prod.ext_iff.mp e
  obtain ⟨e2,e⟩:=Prod.ext_iff.mp e
  obtain ⟨e3,e⟩:=Prod.ext_iff.mp e
  obtain ⟨e4,e5⟩:=Prod.ext_iff.mp e
  dsimp only at e1 e2 e3 e4 e5
  have es:=eA e2
  have fA:aE (sel q.m is)=is.length:=by rw [es];exact hl
  have dD:=hr.sub is (an fA) nd
  rw [es,e4] at dD
  refine lR (hc.trans e1) e3 fun f1 f2 f3 p1 p2 p3 p4=>?_
  rw [e5]
  refine aD (E:=E2 (W2 w b1 b2)) hg dD ?_
  exact Ew h0 h1 h2 h3 q.p (hl▸Nat.le_refl _) fun x0 _ x1 _ x2 _ x3 _ p' h' g' bQ aJ=>by
   have z:=kk ⟨x0,x1,x2,x3⟩ trivial h' g' bQ (hr.join' is nd fA aJ (by rw [es,<- hl];rfl))
   exact z
end
section
variable {A0 A1 A2 A3 H:KV}{b1 b2 pl r:Bool}{d:Drawn}{e0 ep0 ep1 ep2 ep3 he hi it j kt l me t t0 t1 te tk un:Nat}{es0 es1 es2 es3:Array DictEntry}{f1:FL}{f2:FN}{hs:Array Value}{k:Int}{p1 p2 p3:Pos}{w:World}
noncomputable abbrev BC:=fun a=>az a 1107 7 0
noncomputable abbrev BE:=fun a b c d e f g h i j=>t9 a b c d e f g h (.int i j)
theorem Ii {kf:Nat->Nat}{os:OsState}{q3 q6 q7 q8 q9 q10 aH q13:Value}(hr:decide (k∈H.map (·.1))=r) (hn:H.length<=1000) (hb:H.isEmpty=true):
  Qc b1 b2 pl d os fun b1 b2 pl=>⟨Ae w b1 b2,2,⟨(Ag (BC (W2 w b1 b2)) it w b1 b2 l),none,none,[(fl f1,p1),(fn f2,p2),(CC,p3)],none⟩,(jM (eU (dq (dG (bj (BC (W2 w b1 b2))) 0))) (Ax w b1 b2 l)),[(l+1109,AY w b1 b2 pl t me un kf q3 (BE q6 q7 q8 q9 q10 aH (Aa hi) q13 k kt) e0),AR hi hs he],j+1109,tk,.h (KC true l hi j (j+1) (j+2) he hs hn hb) fun x1=>.u (Gh 3 (j+1110) x1.xe x1.xs x1.hI k r hr)<| .e (.e (.done (.ret (.bool (!r)))) [(l+1109,AY w b1 b2 pl t me un kf q3 (BE q6 q7 q8 q9 q10 aH (Aa hi) q13 k kt) e0),A8 hi hs he] (x1.j+1109) (x1.9))⟩:=u7 99 (Hx 0x11303033030202211) [[5,4,4,0,4,1],[]] [] 99 [1,1,2,2,0,2,0,3,0,1] [[5,4,4,0,4,1],[]] [] (by kernel_rfl)
theorem Ij {kf:Nat->Nat}{os:OsState}{q3 q6 q7 q8 q9 q10 aH q13:Value}(hr:decide (k∈H.map (·.1))=r) (hn:H.length<=1000) (hb:H.isEmpty=false):
  Qc b1 b2 pl d os fun b1 b2 pl=>⟨Ae w b1 b2,2,⟨(Ag (BC (W2 w b1 b2)) it w b1 b2 l),none,none,[(fl f1,p1),(fn f2,p2),(CC,p3)],none⟩,(jM (eU (dq (dG (bj (BC (W2 w b1 b2))) 0))) (Ax w b1 b2 l)),[(l+1109,AY w b1 b2 pl t me un kf q3 (BE q6 q7 q8 q9 q10 aH (Aa hi) q13 k kt) e0),AR hi hs he],j+1109,tk,.h (KC false l hi j (j+1) (j+2) he hs hn hb) fun x1=>.u (Gh 3 (j+1110) x1.xe x1.xs x1.hI k r hr)<| .e (.e (.done (.ret (.bool (!r)))) [(l+1109,AY w b1 b2 pl t me un kf q3 (BE q6 q7 q8 q9 q10 aH (Aa hi) q13 k kt) e0),A8 hi hs he] (x1.j+1109) (x1.9))⟩:=u7 103 (Hx 0x11303033030202211) [[5,5,5,4,4,0,4,1],[]] [] 103 [1,1,2,2,0,2,0,3,0,1] [[5,5,5,4,4,0,4,1],[]] [] (by kernel_rfl)
theorem KE {kf:Nat->Nat}{os:OsState}{t2 t3:Nat}{q3 q6 q7 q8 q9 q10 aH q13:Value}(hn:hs.size<=1000) (h0:Z es0 A0) (h1:Z es1 A1) (h2:Z es2 A2) (h3:Z es3 A3):
  Qc b1 b2 pl d os fun b1 b2 pl=>⟨Ae w b1 b2,7,⟨(Ag (BC (W2 w b1 b2)) it w b1 b2 l),none,none,[(fl f1,p1),(fn f2,p2),(CC,p3)],none⟩,c9 [dG (gJ (dG (bj (BC (W2 w b1 b2))) 0)) 0] (Ax w b1 b2 l),[(l+1109,AY w b1 b2 pl t me un kf q3 (BE q6 q7 q8 q9 q10 aH (Aa hi) q13 k kt) e0),AR hi hs he,Bc t t0 t1 t2 t3 te,Ar t0 es0 ep0,Ar t1 es1 ep1,Ar t2 es2 ep2,Ar t3 es3 ep3],j+1109,tk,.c (KD j tk t t0 t1 t2 t3 te kt ep0 ep1 ep2 ep3 k es0 es1 es2 es3 h0 h1 h2 h3 [2,3,4,5,6] (by decide) rfl) fun x1=>.c (jk true 7 (j+3) 4 #[.int (ct A0 k) x1.t0,.int (ct A1 k) x1.t1,.int (ct A2 k) x1.t2,.int (ct A3 k) x1.t3] #[(ct A0 k,x1.t0),(ct A1 k,x1.t1),(ct A2 k,x1.t2),(ct A3 k,x1.t3)] (by simp [intItems]) (by simp) (max (max (max (ct A0 k) (ct A1 k)) (ct A2 k)) (ct A3 k)) (Ga _)) fun x2=>.u (kJ 1 (hi+1109) he hs (Aa x2.j) hn)<| .e (.e (.done .next) [(l+1109,AY w b1 b2 pl t me un kf q3 (BE q6 q7 q8 q9 q10 aH (Aa hi) q13 k kt) e0),(hi+1109,(BM (hs.push (Value.ref (x2.j+1109))) (he+1))),(t+1109,(Aw t0 t1 t2 t3 te)),Ar t0 es0 ep0,Ar t1 es1 ep1,Ar t2 es2 ep2,Ar t3 es3 ep3,((x2.j)+1109,⟨(.type "tuple"),none,.seq #[(.int k kt),(.int (max (max (max (ct A0 k) (ct A1 k)) (ct A2 k)) (ct A3 k)) (x2.t))] 0,#[]⟩)] ((x2.j)+1110) ((x2.3)))⟩:=b7 98 (Hx 0x11011000122221) [[1],[0,2,1],[]] [8] (by kernel_rfl)
end
section
variable {E:En}{N dd ep i ii it Y n tk:Nat}{body aW:List Stmt}{d:Drawn}{es:Array DictEntry}{g:Array GenState}{h₀:Heap}{od:Obj}{Γ:Ctx}
section
variable {W:World}{pl:Bool}{t me un:Nat}{ns:Obj}
end
structure TG where
 t0:Nat
 t1:Nat
 t2:Nat
 t3:Nat
 e0:Array DictEntry
 e1:Array DictEntry
 e2:Array DictEntry
 e3:Array DictEntry
 p0:Nat
 p1:Nat
 p2:Nat
 p3:Nat
 F0:KV
 F1:KV
 F2:KV
 F3:KV
 h0:Z e0 F0
 h1:Z e1 F1
 h2:Z e2 F2
 h3:Z e3 F3
noncomputable def TG.t (B:TG) (k:Nat):Nat:=match k with | 0=>B.t0 | 1=>B.t1 | 2=>B.t2 | _=>B.t3
noncomputable def TG.F (B:TG) (k:Nat):KV:=match k with | 0=>B.F0 | 1=>B.F1 | 2=>B.F2 | _=>B.F3
noncomputable def TG.e (B:TG) (k:Nat):Array DictEntry:=match k with | 0=>B.e0 | 1=>B.e1 | 2=>B.e2 | _=>B.e3
noncomputable def TG.p (B:TG) (k:Nat):Nat:=match k with | 0=>B.p0 | 1=>B.p1 | 2=>B.p2 | _=>B.p3
theorem TG.h (B:TG):∀ k,Z (B.e k) (B.F k)
 | 0=>B.h0
 | 1=>B.h1
 | 2=>B.h2
 | _+3=>B.h3
noncomputable abbrev TG.m (B:TG):Mm:=[(B.t0+1109,au B.e0 B.p0),(B.t1+1109,au B.e1 B.p1),(B.t2+1109,au B.e2 B.p2),(B.t3+1109,au B.e3 B.p3)]
noncomputable def TG.mx (T:TG) (k:Int):Int:=max (max (max (ct T.F0 k) (ct T.F1 k)) (ct T.F2 k)) (ct T.F3 k)
noncomputable def TG.mn (T:TG) (k:Int):Int:=min (min (min (ct T.F0 k) (ct T.F1 k)) (ct T.F2 k)) (ct T.F3 k)
noncomputable def ij (T:TG) (H:KV) (x:Int×Int):KV:=if x.2>0 then (if x.1∈H.map (·.1) then H else H++[(x.1,T.mx x.1)]) else H
theorem vV {A:Around}{X:Value->Shared->Prop}{s:Shared}{it dd:Addr}{e:DictEntry}{Q:Option Value->Shared->Prop}(hit:s.heap.get? it=some (bA dd i n ep)) (eM:s.heap.get? dd=some od) (dU:od.data=.dict es ep) (aG:es.size=n) (hx:es[i]?=some e)
  (hQ:∀ h',h'.get? it=some (bA dd (i+1) n ep)->Heap.SameBut it s.heap h'->Q (some e.key) {s with heap:=h'}):wpAny (Mo E) A (pyNext (.ref it)) Q X s:=by
 have hT:s.TypeIs (.ref it) "dict_keyiterator":=⟨_,hit,rfl⟩
 unfold pyNext
 refine wpAny_bind (wpAny_attempt (wpAny_callSpecial?_slot (name:=Str.ofString "__next__") hT F.slot_dict_keyiterator_next
  (wpAny_call_entry F.slot_dict_keyiterator_next hT F.entry_dict_keyiterator_next ?_ (F.args_dict_keyiterator_next_1 _))))
 exact iX hit eM dU aG hx fun h' h1 h2=>⟨_,rfl,wpAny_pure (hQ h' h1 h2)⟩
theorem ny {os:OsState}{target:Expr}{env:Env}{R:Result->Shared->Prop}{m:Mm}{h:Heap}{e:DictEntry}
  (ht:kI target) (aV:Γ.code=.forLoop target (.ref it) body aW env) (hg:E.G g) (hr:ag E h₀ Y m n h) (h1:ad m ii=some (it,bA dd i N ep)) (h2:h.get? dd=some od) (hd:od.data=.dict es ep) (hN:es.size=N) (hx:es[i]?=some e)
  (w:∀ p,am E h₀ Y R d os ⟨Γ,p,[],eZ target (.ref it) e.key body aW env,cg m ii (bA dd (i+1) N ep),n,tk⟩) (p:Pos):
  wpCode (Mo E) Γ R p ⟨h,g,d,tk,os⟩:=by
 refine (wpCode_iff_wp _ _ _ _ _).mpr ?_
 rw [aV]
 refine ju ?_
 refine Sem.wp_mono (Mo E) Γ _ (fun a p' s' h'=>?_) (fun e p' s' h'=>h') _ _ (bm (Q:=fun o s'=>o=some e.key/\∀ p,wp (Mo E) Γ (fj target (.ref it) e.key body aW env) (finPost (Mo E) Γ R) (fun e _ s'=>R (.error e) s') p s') (E:=fun _ _=>False) ?_ _)
 ·obtain ⟨rfl,h'⟩:=h';exact h' p'
 refine vV (hr.own _ _ _ h1) h2 hd hN hx fun h' he hs=>⟨rfl,fun p=>?_⟩
 refine gc ?_
 rw [ht _ _]
 have r1:ag E h₀ Y (cg m ii (bA dd (i+1) N ep)) n h':=
  hr.chg h1 he (hs.1.trans hr.size) (Nat.le_refl _) fun b x hb hx=>(hs.2 b hb).trans hx
 have z:=w p h' g hg r1
 rw [dO] at z
 rw [<- ev] at z
 exact z
end
theorem tW {d:Drawn}{os:OsState}{w:World}{b1 b2:Bool}{j tk:Nat}{l it a i n ep:Nat}{es:Array DictEntry}{f1:FL}{f2:FN}{p1 p2 p3:Pos}(hn:es.size=n) (hx:n<=i):
  Qw w b1 b2 d os fun W=>⟨E2 W,2,⟨(ax (az W 1107 7 0) (it+1109) (ab W l)),none,none,[(fl f1,p1),(fn f2,p2),(CC,p3)],none⟩,den (ax (az W 1107 7 0) (it+1109) (ab W l)),[(a+1109,au es ep),(it+1109,bA (a+1109) i n ep)],j+1109,tk,.c (jC 1 0 (it+1109) (a+1109) i n ep (au es ep) es rfl hn hx) fun x1=>.e (.e (.done .next) [(a+1109,(au es ep)),(it+1109,(x1))] (j+1111) tk)⟩:=bU 69 [2,0,2,1] [[4,0]] [] (by kernel_rfl)
noncomputable def tH (f:Bool) (m u c b o lo hi tb ky:Value):List (Str×Value):=@Bool.rec (fun _=>List (Str×Value)) (t9 m u c b o lo hi tb ky) (t8 m u c b o lo hi tb) f
section
variable {d:Drawn}{os:OsState}{w:World}{b1 b2:Bool}{t me un l it hi te:Nat}{pl:Bool}{T:TG}{f1:FL}{f2:FN}{p1 p2 p3:Pos}{h₀:Heap}{Y:Nat}{R:Result->Shared->Prop}
noncomputable abbrev CA (w:World) (it l:Nat):Code:=ax (az w 1107 7 0) (it+1109) (ab w l)
noncomputable abbrev jo (w:World) (it l:Nat) (f1:FL) (f2:FN) (p1 p2 p3:Pos):Ctx:=⟨CA w it l,none,none,[(fl f1,p1),(fn f2,p2),(CC,p3)],none⟩
noncomputable abbrev mS (w:World):Stmt:=dG (bj (az w 1107 7 0)) 0
noncomputable abbrev f8 (l it hi t te he:Nat) (T:TG) (ns ito:Obj) (hs:Array Value) (r:Mm):Mm:=(l+1109,ns)::(it+1109,ito)::(hi+1109,ac hs he)::(t+1109,ac (bM T.t0 T.t1 T.t2 T.t3) te)::(T.t0+1109,au T.e0 T.p0)::(T.t1+1109,au T.e1 T.p1)::(T.t2+1109,au T.e2 T.p2)::(T.t3+1109,au T.e3 T.p3)::r
theorem CB (w:World):bj (BC w)=[]++[mS w]:=by kernel_rfl
theorem EV (w:World):kI (cn (BC w)):=fun _ _=>by kernel_rfl
theorem Ik (w:World):nw (mS w):=by kernel_rfl
theorem EW (w:World):Cw (dq (mS w)):=by kernel_rfl
theorem Il (w:World):gJ (mS w)=[dG (gJ (mS w)) 0]:=by kernel_rfl
theorem gZ (a i n ep:Nat):cL (bA a i n ep)=false:=by kernel_rfl
theorem vW {c:Nat}(hc:c < 4) {j tk:Nat}{q6 q7 q8 q9 q10 aH aK:Value}{k v:Int}{kt vt:Nat}{ns:Obj}(aq:LN (W2 w b1 b2) pl t me un (BE q6 q7 q8 q9 q10 aH aK (.ref (T.t c+1109)) k kt) ns) (hf:findBy Value.isInt (T.e c) k=some (.int v vt)) (r:Bool) (hr:decide (v>0)=r) (aI:Pos) (hk:Y<=5)
  (fin:∀ j tk p h g,AllBare g->ag (Ae w b1 b2) h₀ Y ((l+1109,ns)::T.m) (j+1109) h->dx (Ae w b1 b2) R (jo (W2 w b1 b2) it l f1 f2 p1 p2 p3) (.done (.ret (.bool r))) p ⟨h,g,d,tk,os⟩):
  am (Ae w b1 b2) h₀ Y R d os ⟨jo (W2 w b1 b2) it l f1 f2 p1 p2 p3,aI,[],jM (mw (dq (mS (W2 w b1 b2)))) (Ax w b1 b2 l),(l+1109,ns)::T.m,j+1109,tk⟩:=by
 induction aq with | @i kf q3 e0=>?_
 have jO:=(T.h c).keys
 rcases c with _ | _ | _ | _ | c
 ·refine am.sub [0,1] rfl (by decide) rfl fun h1 aj=>?_
  exact tV jO hf hr aI (Nat.le_refl _) fun p h g hg aa=>fin _ _ p h g hg (aj.join' [0,1] (by decide) rfl aa rfl)
 ·refine am.sub [0,2] rfl (by decide) rfl fun h1 aj=>?_
  exact tV jO hf hr aI (Nat.le_refl _) fun p h g hg aa=>fin _ _ p h g hg (aj.join' [0,2] (by decide) rfl aa rfl)
 ·refine am.sub [0,3] rfl (by decide) rfl fun h1 aj=>?_
  exact tV jO hf hr aI (Nat.le_refl _) fun p h g hg aa=>fin _ _ p h g hg (aj.join' [0,3] (by decide) rfl aa rfl)
 ·refine am.sub [0,4] rfl (by decide) rfl fun h1 aj=>?_
  exact tV jO hf hr aI (Nat.le_refl _) fun p h g hg aa=>fin _ _ p h g hg (aj.join' [0,4] (by decide) rfl aa rfl)
 ·lia
theorem CD {c:Nat}(hc:c < 4) {he i j tk:Nat}{ns:Obj}{hs:Array Value}{h:Heap}{g:Array GenState}{p:Pos}(hx:(T.e c).size<=i) (hk:Y<=8) (hg:AllBare g) (al:ag (Ae w b1 b2) h₀ Y (f8 l it hi t te he T ns (bA (T.t c+1109) i (T.e c).size (T.p c)) hs []) (j+1109) h)
  (fin:∀ ito j tk h' g',AllBare g'->ag (Ae w b1 b2) h 8 (f8 l it hi t te he T ns ito hs []) (j+1109) h'->R (.ok .next) ⟨h',g',d,tk,os⟩):wpCode (Bf w b1 b2) (jo (W2 w b1 b2) it l f1 f2 p1 p2 p3) R p ⟨h,g,d,tk,os⟩:=by
 have r8:=al.sub [0,1,2,3,4,5,6,7] (an rfl) (by decide)
 rcases c with _ | _ | _ | _ | c
 ·refine aD (E:=(E2 (W2 w b1 b2))) (h₀:=h) (Y:=8) hg r8 ?_
  refine am.sub [4,1] rfl (by decide) rfl fun h1 aj=>?_
  exact tW rfl hx p (Nat.le_refl _) fun x _ p2 h2 g2 ao aa=>fin _ (j+2) _ h2 g2 ao (aj.join' [4,1] (by decide) rfl aa rfl)
 ·refine aD (E:=(E2 (W2 w b1 b2))) (h₀:=h) (Y:=8) hg r8 ?_
  refine am.sub [5,1] rfl (by decide) rfl fun h1 aj=>?_
  exact tW rfl hx p (Nat.le_refl _) fun x _ p2 h2 g2 ao aa=>fin _ (j+2) _ h2 g2 ao (aj.join' [5,1] (by decide) rfl aa rfl)
 ·refine aD (E:=(E2 (W2 w b1 b2))) (h₀:=h) (Y:=8) hg r8 ?_
  refine am.sub [6,1] rfl (by decide) rfl fun h1 aj=>?_
  exact tW rfl hx p (Nat.le_refl _) fun x _ p2 h2 g2 ao aa=>fin _ (j+2) _ h2 g2 ao (aj.join' [6,1] (by decide) rfl aa rfl)
 ·refine aD (E:=(E2 (W2 w b1 b2))) (h₀:=h) (Y:=8) hg r8 ?_
  refine am.sub [7,1] rfl (by decide) rfl fun h1 aj=>?_
  exact tW rfl hx p (Nat.le_refl _) fun x _ p2 h2 g2 ao aa=>fin _ (j+2) _ h2 g2 ao (aj.join' [7,1] (by decide) rfl aa rfl)
 ·lia
end
section
variable {E:En}{H L:KV}{W:World}{c he i j me n tk un:Nat}{g:Array GenState}{h:Heap}{hs xs:Array Value}{k v:Int}{m:Mm}{ns o:Obj}{p:Pos}{pl:Bool}{tl:List (Str×Value)}{u:Tok}
theorem CE (h:(L.map (·.1)).Nodup) {x:Int×Int}(hx:x∈L):lk L x.1=some x.2:=by
 induction L with
 | nil=>cases hx
 | cons y L ih=>
  rw [List.map_cons,List.nodup_cons] at h
  rcases List.mem_cons.mp hx with rfl | hx
  ·show (if x.1=x.1 then some x.2 else _)=_
   rw [if_pos rfl]
  ·show (if y.1=x.1 then some y.2 else lk L x.1)=_
   rw [if_neg (fun q:y.1=x.1=>h.1 (q▸List.mem_map_of_mem hx))]
   exact ih h.2 hx
theorem LN.t {t:Nat}:LN W pl t me un tl ns->cL ns=false
 | .i=>jP _ _
theorem aB.push (p:aB E h xs L) {a:Addr}{t:Tok}(e:h.get? a=some (Ah k t v u)) (o:gL a E.mu=true∨E.T.get a=none):aB E h (xs.push (.ref a)) (L++[(k,v)]):=by
 refine ⟨by rw [Array.size_push,List.length_append,p.1];rfl,fun j x hx=>?_⟩
 rcases Nat.lt_trichotomy j L.length with z | z | z
 ·rw [List.getElem?_append_left z] at hx
  obtain ⟨b,t',u',e1,e2,e3⟩:=p.2 j x hx
  exact ⟨b,t',u',by rw [Array.getElem?_push_lt (by rw [p.1];exact z)];rw [<- e1,Array.getElem?_eq_getElem],e2,e3⟩
 ·subst z
  rw [List.getElem?_append_right (Nat.le_refl _),Nat.sub_self] at hx
  cases hx
  exact ⟨a,t,u,by rw [<- p.1];exact Array.getElem?_push_size,e,o⟩
 ·rw [List.getElem?_eq_none (by rw [List.length_append,List.length_singleton];lia)] at hx
  cases hx
section
variable {d:Drawn}{os:OsState}{w:World}{b1 b2:Bool}{t me un l it hi te:Nat}{pl:Bool}{T:TG}{f1:FL}{f2:FN}{p1 p2 p3:Pos}{h₀:Heap}{Y:Nat}{R:Result->Shared->Prop}
theorem aB.apart (p:aB E h xs L) {k:Nat}(r:ag E h₀ k m n h) (nt:bN m) {a:Addr}(ha:Value.ref a∈xs) (e:ad m i=some (a,o)):False:=by
 obtain ⟨j,hj,e1⟩:=Array.mem_iff_getElem.mp ha
 have lJ:j < L.length:=by rw [<- p.1];exact hj
 obtain ⟨b,t,u,e2,e3,_⟩:=p.2 j L[j] (List.getElem?_eq_getElem lJ)
 rw [Array.getElem?_eq_getElem hj,e1] at e2
 cases e2
 have:=r.own i a o e
 rw [e3] at this
 cases this
 have:=nt.at i _ e
 cases this
theorem CF (hK:∀ k,Ks (T.F k)) (hc:c < 4) (f:Bool) {x:Int×Int}(hx:(T.F c)[i]?=some x) (hH:H.length<=900) {q6 q7 q8 q9 q10 aH q14:Value}(hP:aB (Ae w b1 b2) h hs H)
  (aq:LN (W2 w b1 b2) pl t me un (tH f q6 q7 q8 q9 q10 aH (Aa hi) (.ref (T.t c+1109)) q14) ns) (hk:Y<=8) (hg:AllBare g) (al:ag (Ae w b1 b2) h₀ Y (f8 l it hi t te he T ns (bA (T.t c+1109) i (T.e c).size (T.p c)) hs []) (j+1109) h)
  (nx:∀ cB mT aQ q14 j tk h' g' p,aB (Ae w b1 b2) h' cB (ij T H x)->LN (W2 w b1 b2) pl t me un (t9 q6 q7 q8 q9 q10 aH (Aa hi) (.ref (T.t c+1109)) q14) aQ->AllBare g'->ag (Ae w b1 b2) h₀ Y (f8 l it hi t te mT T aQ (bA (T.t c+1109) (i+1) (T.e c).size (T.p c)) cB []) (j+1109) h'->wpCode (Bf w b1 b2) (jo (W2 w b1 b2) it l f1 f2 p1 p2 p3) R p ⟨h',g',d,tk,os⟩):
  wpCode (Bf w b1 b2) (jo (W2 w b1 b2) it l f1 f2 p1 p2 p3) R p ⟨h,g,d,tk,os⟩:=by
 obtain ⟨kt,u,Im⟩:=(T.h c).at hx
 obtain ⟨vt,hf⟩:=(T.h c).hit (CE (hK c).1 (List.mem_of_getElem? hx))
 have r8:=al.sub [0,1,2,3,4,5,6,7] (an rfl) (by decide)
 have hd:h.get? (T.t c+1109)=some (au (T.e c) (T.p c)):=by
  rcases c with _ | _ | _ | _ | c
  ·exact r8.own 4 _ _ rfl
  ·exact r8.own 5 _ _ rfl
  ·exact r8.own 6 _ _ rfl
  ·exact r8.own 7 _ _ rfl
  ·lia
 have nt:∀ {ns:Obj}{N:Nat}{he:Nat}{hs:Array Value},cL ns=false->bN (f8 l it hi t te he T ns (bA (T.t c+1109) N (T.e c).size (T.p c)) hs []):=fun h=>⟨h,gZ _ _ _ _,bI _ _,bI _ _,c8 _ _,c8 _ _,c8 _ _,c8 _ _,trivial⟩
 have ok:∀ {m':Mm},8<=m'.length->gk (f8 l it hi t te he T ns (bA (T.t c+1109) i (T.e c).size (T.p c)) hs []) m':=fun hl=>bN.step (nt aq.t) hl
 refine ny (ii:=1) (h₀:=h) (Y:=8) (EV _) rfl hg r8 rfl hd rfl rfl Im (fun pa=>d9 (CB _) ?_) p
 refine am.sub [0] rfl (by decide) rfl fun h1 aj=>?_
 have go:∀ (iB:Obj) (vS:Nat) (pz:Pos) (h2:Heap) (g2:Array GenState),LN (W2 w b1 b2) pl t me un (t9 q6 q7 q8 q9 q10 aH (.ref (hi+1109)) (.ref (T.t c+1109)) (.int x.1 kt)) iB->AllBare g2->ag (E2 (W2 w b1 b2)) h1 1 [(l+1109,iB)] (j+1109) h2->
   dx (E2 (W2 w b1 b2)) (DK (E2 (W2 w b1 b2)) (jo (W2 w b1 b2) it l f1 f2 p1 p2 p3) [mS (W2 w b1 b2)] (ab (W2 w b1 b2) l) (gm (E2 (W2 w b1 b2)) (jo (W2 w b1 b2) it l f1 f2 p1 p2 p3) (CA (W2 w b1 b2) it l) R) fun _ _ _=>False) (jo (W2 w b1 b2) it l f1 f2 p1 p2 p3) (.done .next) pz ⟨h2,g2,d,vS,os⟩:=by
  intro iB vS pz h2 g2 gj ao aa
  have aS:ag (E2 (W2 w b1 b2)) h 8 (f8 l it hi t te he T iB (bA (T.t c+1109) (i+1) (T.e c).size (T.p c)) hs []) (j+1109) h2:=aj.join' [0] (by decide) rfl aa rfl
  intro pb
  refine my (Ik _) fun pc=>ET (EW _) ?_
  refine jN (h₀:=h2) (Y:=5) ao (aS.sub [0,4,5,6,7] (an rfl) (by decide)) ?_
  refine vW hc gj hf (decide (x.2>0)) rfl pc (Nat.le_refl _) fun j3 sn EX h3 g3 dY bc=>?_
  have bl:ag (E2 (W2 w b1 b2)) h 8 (f8 l it hi t te he T iB (bA (T.t c+1109) (i+1) (T.e c).size (T.p c)) hs []) (j3+1109) h3:=aS.join' [0,4,5,6,7] (by decide) rfl bc rfl
  have mU:aB (E2 (W2 w b1 b2)) h3 hs H:=hP.step r8 bl rfl (ok (Nat.le_refl _))
  intro pd
  by_cases b9:x.2>0
  ·rw [decide_eq_true b9]
   refine jN (h₀:=h3) (Y:=2) dY (bl.sub [0,2] (an rfl) (by decide)) ?_
   have hA:lh (E2 (W2 w b1 b2)) h3 [l+1109,hi+1109] hs H:=by
    refine ⟨mU,fun a ha hm=>?_⟩
    rcases List.mem_cons.mp hm with rfl | hm
    ·exact mU.apart bl (nt gj.t) ha (i:=0) rfl
    ·rcases List.mem_cons.mp hm with rfl | hm
     ·exact mU.apart bl (nt gj.t) ha (i:=2) rfl
     ·cases hm
   have Gk:∀ (j4 mR:Nat) (pz:Pos) (h4:Heap) (g4:Array GenState),AllBare g4->ag (E2 (W2 w b1 b2)) h3 2 [(l+1109,iB),(hi+1109,ac hs he)] (j4+1109) h4->∀ pe,(match !decide (x.1∈H.map (·.1)) with
     | true=>wp (Mo (E2 (W2 w b1 b2))) (jo (W2 w b1 b2) it l f1 f2 p1 p2 p3) (execs (gJ (mS (W2 w b1 b2))++[]) (ab (W2 w b1 b2) l)) (gm (E2 (W2 w b1 b2)) (jo (W2 w b1 b2) it l f1 f2 p1 p2 p3) (CA (W2 w b1 b2) it l) R) (fun _ _ _=>False) pe ⟨h4,g4,d,mR,os⟩
     | false=>wp (Mo (E2 (W2 w b1 b2))) (jo (W2 w b1 b2) it l f1 f2 p1 p2 p3) (execs [] (ab (W2 w b1 b2) l)) (gm (E2 (W2 w b1 b2)) (jo (W2 w b1 b2) it l f1 f2 p1 p2 p3) (CA (W2 w b1 b2) it l) R) (fun _ _ _=>False) pe ⟨h4,g4,d,mR,os⟩):=by
    intro j4 mR pz h4 g4 gG cP pe
    have cQ:ag (E2 (W2 w b1 b2)) h 8 (f8 l it hi t te he T iB (bA (T.t c+1109) (i+1) (T.e c).size (T.p c)) hs []) (j4+1109) h4:=bl.join' [0,2] (by decide) rfl cP rfl
    have CG:aB (E2 (W2 w b1 b2)) h4 hs H:=hP.step r8 cQ rfl (ok (Nat.le_refl _))
    by_cases hm:x.1∈H.map (·.1)
    ·rw [decide_eq_true hm]
     have e:ij T H x=H:=by unfold ij;rw [if_pos b9,if_pos hm]
     exact nx hs he iB _ j4 mR h4 g4 pe (e.symm▸CG) gj gG (al.join' [0,1,2,3,4,5,6,7] (by decide) rfl cQ rfl)
    ·rw [decide_eq_false hm]
     show wp (Mo (E2 (W2 w b1 b2))) (jo (W2 w b1 b2) it l f1 f2 p1 p2 p3) (execs (gJ (mS (W2 w b1 b2))++[]) (ab (W2 w b1 b2) l)) (gm (E2 (W2 w b1 b2)) (jo (W2 w b1 b2) it l f1 f2 p1 p2 p3) (CA (W2 w b1 b2) it l) R) (fun _ _ _=>False) pe ⟨h4,g4,d,mR,os⟩
     rw [Il]
     refine cO (h₀:=h4) (Y:=7) (l:=[dG (gJ (mS (W2 w b1 b2))) 0]) (rest:=[]) gG (cQ.sub [0,2,3,4,5,6,7] (an rfl) (by decide)) ?_
     have fv:=gj
     induction gj with | @i kf q3 e0=>?_
     refine KE (by have:=CG.1;lia) T.h0 T.h1 T.h2 T.h3 pe (Nat.le_refl _) fun _ _ x2 _ Io h5 g5 fY fw=>?_
     have eY:=cQ.join' [0,2,3,4,5,6,7] (by decide) rfl fw rfl
     have Ip:aB (E2 (W2 w b1 b2)) h5 hs H:=CG.step (cQ.sub [0,1,2,3,4,5,6,7] (an rfl) (by decide)) (ag.join' (cQ.sub [0,1,2,3,4,5,6,7] (an rfl) (by decide)) [0,2,3,4,5,6,7] (by decide) rfl fw rfl) rfl (bN.step (nt (jP _ _)) (by show 8<=9;lia))
     intro pf
     have e:ij T H x=H++[(x.1,T.mx x.1)]:=by unfold ij;rw [if_pos b9,if_neg hm]
     refine nx _ (he+1) _ _ (x2.j+1) _ h5 g5 pf (e.symm▸Ip.push (eY.own 8 _ _ rfl) (eY.off 8 _ _ rfl)) fv fY ?_
     exact al.join' [0,1,2,3,4,5,6,7] (by decide) rfl (eY.pick [0,1,2,3,4,5,6,7] 8 (by decide) (by decide) (Nat.le_refl _) rfl) rfl
   induction gj with | @i kf q3 e0=>?_
   cases hb:H.isEmpty with
   | true=>exact Ii rfl (by lia) hb pd (Nat.le_refl _) (And.intro ⟨Nat.le_refl _,hA⟩ fun x1 _ pz h4 g4 gG cP=>Gk _ _ pz h4 g4 gG cP)
   | false=>exact Ij rfl (by lia) hb pd (Nat.le_refl _) (And.intro ⟨Nat.le_refl _,hA⟩ fun x1 _ pz h4 g4 gG cP=>Gk _ _ pz h4 g4 gG cP)
  ·rw [decide_eq_false b9]
   have e:ij T H x=H:=by unfold ij;rw [if_neg b9]
   exact nx hs he iB _ j3 sn h3 g3 pd (e.symm▸mU) gj dY (al.join' [0,1,2,3,4,5,6,7] (by decide) rfl bl rfl)
 cases f with
 | true=>
  induction aq with | @i kf q3 e0=>?_
  exact Kx pa (Nat.le_refl _) fun pz h2 g2 ao aa=>go _ _ pz h2 g2 LN.i ao aa
 | false=>
  induction aq with | @i kf q3 e0=>?_
  exact Ky pa (Nat.le_refl _) fun pz h2 g2 ao aa=>go _ _ pz h2 g2 LN.i ao aa
end
end
section
variable {Q:Flow->Pos->Shared->Prop}{X:Value->Pos->Shared->Prop}{b body aW rest:List Stmt}{e i ii it l li n tk:Nat}{g:Array GenState}{h:Heap}{m:Mm}{p ps:Pos}{v:Value}{xs:Array Value}{Γ:Ctx}
noncomputable def oz:Stmt->Pos | .For _ _ _ _ p=>p | _=>default
noncomputable def ki (st:Stmt):Prop:=st=.For (cn st) (nh st) (bj st) [] (oz st)/\∀ env x,foldedSetIterable (nh st) env x=pure x
noncomputable def oC (st:Stmt) (env:Env):Sem Fin:=.at (oz st) fun _=>R.bindR (Fast.tw14044960220447912780 (nh st) env) fun x=>.at (nh st).pos fun _=>R.bindR (Fast.tw8711993805878244202 x) fun v=>.pure (.done (.ret v))
theorem EY (st:Stmt) (env:Env):oC st env=standAt (oz st)>>=fun _=>eval (nh st) env>>=fun x=>standAt (nh st).pos>>=fun _=>pyIter x>>=fun v=>(.pure (.done (.ret v)):Sem Fin):=by
 unfold oC;rw [<- R.bindR_eq,<- Fast.te14044960220447912780,<- Fast.te8711993805878244202];rfl
section
variable {E:En}{h₀:Heap}{Y:Nat}{d:Drawn}{os:OsState}
noncomputable def Gl (M:Model) (Γ:Ctx) (rest:List Stmt) (env:Env) (Q:Flow->Pos->Shared->Prop) (X:Value->Pos->Shared->Prop):Result->Shared->Prop
 | .ok .next,s=>∀ p,wp M Γ (execs rest env) Q X p s
 | .ok f,s=>∀ p,Q f p s
 | .error _,_=>False
noncomputable def Iq (M:Model) (Γ:Ctx) (st:Stmt) (rest:List Stmt) (env:Env) (Q:Flow->Pos->Shared->Prop) (X:Value->Pos->Shared->Prop):Result->Shared->Prop
 | .ok (.ret v),s=>∀ p,wpCode M (Γ.enter (.forLoop (cn st) v (bj st) [] env) none p) (Gl M Γ rest env Q X) p s
 | _,_=>False
theorem CI {env:Env}{t i:Expr}{st:Stmt}{s:Shared}(e1:cn st=t) (e2:bj st=b) (e0:∀ x,foldedSetIterable i env x=pure x)
  (z:wp (Mo E) Γ (standAt ps>>=fun _=>eval i env>>=fun x=>standAt i.pos>>=fun _=>pyIter x>>=fun v=>(.pure (.done (.ret v)):Sem Fin)) (finPost (Mo E) Γ (Iq (Mo E) Γ st rest env Q X)) (fun e _ s'=>False) p s):wp (Mo E) Γ (execs (.For t i b [] ps::rest) env) Q X p s:=by
 subst e1 e2
 show wp (Mo E) Γ (exec (.For (cn st) i (bj st) [] ps) env>>=fun f=>match f with | .next=>execs rest env | f=>pure f) Q X p _
 rw [Sem.wp_bind']
 show wp (Mo E) Γ (standAt ps>>=fun _=>eval i env>>=fun x0=>foldedSetIterable i env x0>>=fun x=>standAt i.pos>>=fun _=>holding [x] (pyIter x)>>=fun v=>runOwn (.forLoop (cn st) v (bj st) [] env) env) _ X p _
 simp only [e0]
 simp only [Sem.wp_bind',Sem.wp_cmd_standAt,Sem.wp_holding] at z ⊢
 refine Sem.wp_mono _ _ _ (fun x p1 s1 h1=>?_) (fun e p1 s1 h1=>h1.elim) _ _ z
 show wp (Mo E) Γ (pyIter x) _ _ _ _
 refine Sem.wp_mono _ _ _ (fun v p2 s2 h2=>?_) (fun e p1 s1 h1=>h1.elim) _ _ h1
 have h2:∀ p,wpCode (Mo E) (Γ.enter (.forLoop (cn st) v (bj st) [] env) none p) (Gl (Mo E) Γ rest env Q X) p s2:=h2
 unfold runOwn
 rw [Sem.wp_onRaise]
 obtain ⟨r,s',hr,hR⟩:=h2 p2
 refine ⟨r,s',hr,?_⟩
 match r,hR with
 | .ok .next,hR=>exact hR p2
 | .ok .brk,hR=>exact hR p2
 | .ok .cont,hR=>exact hR p2
 | .ok (.ret v),hR=>exact hR p2
theorem jQ {env:Env}{st:Stmt}(hs:ki st) (hg:E.G g) (hr:ag E h₀ Y m n h)
  (w:∀ p,am E h₀ Y (Iq (Mo E) Γ st rest env Q X) d os ⟨Γ,p,[],oC st env,m,n,tk⟩):wp (Mo E) Γ (execs (st::rest) env) Q X p ⟨h,g,d,tk,os⟩:=by
 have z:=w p h g hg hr
 rw [dO,EY] at z
 rw [hs.1]
 exact CI rfl rfl (hs.2 env) z
theorem vX {A:Around}{X:Value->Shared->Prop}{s:Shared}{it l:Addr}{Q:Option Value->Shared->Prop}(hit:s.heap.get? it=some (ba l i)) (hl:s.heap.get? l=some (ac xs e)) (hx:xs[i]?=some v)
  (hQ:∀ h',h'.get? it=some (ba l (i+1))->Heap.SameBut it s.heap h'->Q (some v) {s with heap:=h'}):wpAny (Mo E) A (pyNext (.ref it)) Q X s:=by
 have hT:s.TypeIs (.ref it) "list_iterator":=⟨_,hit,rfl⟩
 unfold pyNext
 refine wpAny_bind (wpAny_attempt (wpAny_callSpecial?_slot (name:=Str.ofString "__next__") hT slot_listiter_next
  (wpAny_call_entry slot_listiter_next hT entry_listiter_next ?_ (args_listiter_next _))))
 exact jB hit hl hx fun h' h1 h2=>⟨_,rfl,wpAny_pure (hQ h' h1 h2)⟩
theorem vY {target:Expr}{env:Env}{R:Result->Shared->Prop}
  (ht:kI target) (aV:Γ.code=.forLoop target (.ref it) body aW env) (hg:E.G g) (hr:ag E h₀ Y m n h) (h1:ad m ii=some (it,ba l i)) (h2:ad m li=some (l,ac xs e)) (hx:xs[i]?=some v)
  (w:∀ p,am E h₀ Y R d os ⟨Γ,p,[],eZ target (.ref it) v body aW env,cg m ii (ba l (i+1)),n,tk⟩) (p:Pos):
  wpCode (Mo E) Γ R p ⟨h,g,d,tk,os⟩:=by
 refine (wpCode_iff_wp _ _ _ _ _).mpr ?_
 rw [aV]
 refine ju ?_
 refine Sem.wp_mono (Mo E) Γ _ (fun a p' s' h'=>?_) (fun e p' s' h'=>h') _ _ (bm (Q:=fun o s'=>o=some v/\∀ p,wp (Mo E) Γ (fj target (.ref it) v body aW env) (finPost (Mo E) Γ R) (fun e _ s'=>R (.error e) s') p s') (E:=fun _ _=>False) ?_ _)
 ·obtain ⟨rfl,h'⟩:=h';exact h' p'
 refine vX (hr.own _ _ _ h1) (hr.own _ _ _ h2) hx fun h' he hs=>⟨rfl,fun p=>?_⟩
 refine gc ?_
 rw [ht _ _]
 have r1:ag E h₀ Y (cg m ii (ba l (i+1))) n h':=
  hr.chg h1 he (hs.1.trans hr.size) (Nat.le_refl _) fun b x hb hx=>(hs.2 b hb).trans hx
 have z:=w p h' g hg r1
 rw [dO] at z
 rw [<- ev] at z
 exact z
end
end
section
variable {a e0 ep i it j l me t te tk un:Nat}{b1 b2 pl:Bool}{d:Drawn}{es:Array DictEntry}{f2:FN}{p2 p3 p4:Pos}{w:World}{xs:Array Value}
theorem Ir {kf:Nat->Nat}{os:OsState}{q3 q6 q7 q8 q9 q10 aH aK:Value}:
  Qv w b1 b2 pl d os fun W pl=>⟨E2 W,1,⟨(ax (ai W 1107 7) (it+1109) (ab W l)),none,none,[(fn f2,p2),(CC,p3)],none⟩,ic (cn (ai W 1107 7)) (.ref (a+1109)) [] (ab W l),[(l+1109,bB W pl t me un kf q3 (t7 q6 q7 q8 q9 q10 aH aK) e0)],j+1109,tk,.e (.e (.done .next) [(l+1109,bB W pl t me un (uf kf 12 tk) q3 (t8 q6 q7 q8 q9 q10 aH aK (.ref (a+1109))) (e0+1))] (j+1109) (tk+1))⟩:=b7 68 [1,1] [] [] (by kernel_rfl)
theorem Is {kf:Nat->Nat}{os:OsState}{q3 q6 q7 q8 q9 q10 aH aK q13 q14:Value}:
  Qv w b1 b2 pl d os fun W pl=>⟨E2 W,1,⟨(ax (ai W 1107 7) (it+1109) (ab W l)),none,none,[(fn f2,p2),(CC,p3)],none⟩,ic (cn (ai W 1107 7)) (.ref (a+1109)) [] (ab W l),[(l+1109,bB W pl t me un kf q3 (t9 q6 q7 q8 q9 q10 aH aK q13 q14) e0)],j+1109,tk,.e (.e (.done .next) [(l+1109,bB W pl t me un kf q3 (t9 q6 q7 q8 q9 q10 aH aK (.ref (a+1109)) q14) e0)] (j+1109) (tk+1))⟩:=b7 68 [1,1] [] [] (by kernel_rfl)
theorem tX {kf:Nat->Nat}{os:OsState}{q3 q6 q7 q8 q9 q10 aH aK:Value}:
  Qv w b1 b2 pl d os fun W pl=>⟨E2 W,2,⟨(ax (ai W 1107 7) (it+1109) (ab W l)),none,none,[(fn f2,p2),(CC,p3)],none⟩,oC (az W 1107 7 0) (ab W l),[(l+1109,bB W pl t me un kf q3 (t8 q6 q7 q8 q9 q10 aH aK (.ref (a+1109))) e0),(a+1109,au es ep)],j+1109,tk,.e (.e (.done (.ret (.ref (j+1109)))) [(l+1109,(bB W pl t me un kf q3 (t8 q6 q7 q8 q9 q10 aH aK (.ref (a+1109))) e0)),(a+1109,(au es ep)),(j+1109,⟨(.type "dict_keyiterator"),none,.fields #[(.ref (a+1109)),(.int 0 0),(.int (↑es.size) 0),(.int (↑ep) 0)],#[]⟩)] (j+1110) tk)⟩:=b7 77 [1,2,2,0,2,0,2,2,2,3] [] [2] (by kernel_rfl)
theorem tY {kf:Nat->Nat}{os:OsState}{q3 q6 q7 q8 q9 q10 aH aK q14:Value}:
  Qv w b1 b2 pl d os fun W pl=>⟨E2 W,2,⟨(ax (ai W 1107 7) (it+1109) (ab W l)),none,none,[(fn f2,p2),(CC,p3)],none⟩,oC (az W 1107 7 0) (ab W l),[(l+1109,bB W pl t me un kf q3 (t9 q6 q7 q8 q9 q10 aH aK (.ref (a+1109)) q14) e0),(a+1109,au es ep)],j+1109,tk,.e (.e (.done (.ret (.ref (j+1109)))) [(l+1109,(bB W pl t me un kf q3 (t9 q6 q7 q8 q9 q10 aH aK (.ref (a+1109)) q14) e0)),(a+1109,(au es ep)),(j+1109,⟨(.type "dict_keyiterator"),none,.fields #[(.ref (a+1109)),(.int 0 0),(.int (↑es.size) 0),(.int (↑ep) 0)],#[]⟩)] (j+1110) tk)⟩:=b7 77 [1,2,2,0,2,0,2,2,2,3] [] [2] (by kernel_rfl)
theorem KF {os:OsState}(hx:xs.size<=i):
  Qw w b1 b2 d os fun W=>⟨E2 W,2,⟨(ax (ai W 1107 7) (it+1109) (ab W l)),none,none,[(fn f2,p2),(CC,p3)],none⟩,den (ax (ai W 1107 7) (it+1109) (ab W l)),[(t+1109,ac xs te),(it+1109,ba (t+1109) i)],j+1109,tk,.c (fU 1 0 (it+1109) (t+1109) i te xs hx) fun x1=>.e (.e (.done .next) [(t+1109,(ac xs te)),(it+1109,(x1))] (j+1111) tk)⟩:=bU 69 [2,0,2,1] [[4,0]] [] (by kernel_rfl)
theorem KG {kf:Nat->Nat}{os:OsState}{q3 q6 q7 q8 q9 q10 aH aK:Value}:
  Qv w b1 b2 pl d os fun W pl=>⟨E2 W,2,(eK W l p4),oC (ai W 1107 7) (ab W l),[(l+1109,bB W pl t me un kf q3 (t7 q6 q7 q8 q9 q10 aH aK) e0),(t+1109,ac xs te)],j+1109,tk,.e (.e (.done (.ret (.ref (j+1109)))) [(l+1109,(bB W pl t me un kf q3 (t7 q6 q7 q8 q9 q10 aH aK) e0)),(t+1109,(ac xs te)),(j+1109,⟨(.type "list_iterator"),none,.fields #[(.ref (t+1109)),(.int 0 0)],#[]⟩)] (j+1110) tk)⟩:=b7 74 [1,2,2,0,2,0,3] [] [2] (by kernel_rfl)
end
section
variable {Q:Flow->Pos->Shared->Prop}{T:TG}{X:Value->Pos->Shared->Prop}{c he hi it j l t te tk:Nat}{g:Array GenState}{h:Heap}{hs:Array Value}{ito ns:Obj}{p p4:Pos}{rest:List Stmt}
noncomputable def fG (T:TG):Nat->KV
 | 0=>[]
 | c+1=>(T.F c).foldl (ij T) (fG T c)
theorem qM (T:TG) (H:KV) (x:Int×Int):(ij T H x).length<=H.length+1:=by
 unfold ij
 split
 ·split
  ·lia
  ·simp
 ·lia
theorem nz {S:KV->Int×Int->KV}(hS:∀ H x,(S H x).length<=H.length+1):∀ (F H:KV),(F.foldl S H).length<=H.length+F.length
 | [],H=>Nat.le_refl _
 | x::F,H=>by
  have h1:=nz hS F (S H x)
  have h2:=hS H x
  simp only [List.foldl_cons,List.length_cons] at *
  lia
theorem nA {T:TG}(hK:∀ k,Ks (T.F k)):∀ c,(fG T c).length<=6 * c
 | 0=>Nat.le_refl _
 | c+1=>by
  have h1:=nz (qM T) (T.F c) (fG T c)
  have h2:=nA hK c
  have h3:=(hK c).len
  show ((T.F c).foldl (ij T) (fG T c)).length<=_
  lia
section
variable {d:Drawn}{os:OsState}{w:World}{b1 b2:Bool}{t me un l it hi te:Nat}{pl:Bool}{T:TG}{f1:FL}{f2:FN}{p1 p2 p3:Pos}{h₀:Heap}{Y:Nat}{R:Result->Shared->Prop}
theorem oF (h:cL ns=false) (h2:cL ito=false):bN (f8 l it hi t te he T ns ito hs []):=⟨h,h2,bI _ _,bI _ _,c8 _ _,c8 _ _,c8 _ _,c8 _ _,trivial⟩
theorem CJ (hK:∀ k,Ks (T.F k)) (hc:c < 4) {q6 q7 q8 q9 q10 aH:Value}(hk:Y<=8):
  ∀ (ay:KV) (i:Nat),(T.F c).drop i=ay->∀ (f:Bool) (H:KV) (hs:Array Value) (he:Nat) (q14:Value) (ns:Obj) (j tk:Nat) (h:Heap) (g:Array GenState) (p:Pos),H.length+ay.length<=900->aB (Ae w b1 b2) h hs H->LN (W2 w b1 b2) pl t me un (tH f q6 q7 q8 q9 q10 aH (Aa hi) (.ref (T.t c+1109)) q14) ns->AllBare g->ag (Ae w b1 b2) h₀ Y (f8 l it hi t te he T ns (bA (T.t c+1109) i (T.e c).size (T.p c)) hs []) (j+1109) h->
   (∀ hs he q14 ns ito j tk h g,aB (Ae w b1 b2) h hs (ay.foldl (ij T) H)->LN (W2 w b1 b2) pl t me un (tH (f&&ay.isEmpty) q6 q7 q8 q9 q10 aH (Aa hi) (.ref (T.t c+1109)) q14) ns->AllBare g->ag (Ae w b1 b2) h₀ Y (f8 l it hi t te he T ns ito hs []) (j+1109) h->R (.ok .next) ⟨h,g,d,tk,os⟩)->
   wpCode (Bf w b1 b2) (jo (W2 w b1 b2) it l f1 f2 p1 p2 p3) R p ⟨h,g,d,tk,os⟩:=by
 intro ay
 induction ay with
 | nil=>
  intro i bv f H hs he q14 ns j tk h g p hH hP aq hg al fin
  have hl:(T.e c).size<=i:=by
   rw [(T.h c).size]
   have:=congrArg List.length bv
   simp at this;lia
  refine CD hc hl hk hg al fun ito j2 tk2 h2 g2 ao aa=>?_
  have r8:=al.sub [0,1,2,3,4,5,6,7] (an rfl) (by decide)
  refine fin hs he q14 ns ito j2 tk2 h2 g2 (hP.step r8 aa rfl (bN.step (oF aq.t (gZ _ _ _ _)) (Nat.le_refl _))) ?_ ao (al.join' [0,1,2,3,4,5,6,7] (by decide) rfl aa rfl)
  show LN (W2 w b1 b2) pl t me un (tH (f&&true) _ _ _ _ _ _ _ _ _) ns
  rw [Bool.and_true];exact aq
 | cons x ay ih=>
  intro i bv f H hs he q14 ns j tk h g p hH hP aq hg al fin
  have hx:(T.F c)[i]?=some x:=by
   have:=congrArg (fun l=>l[0]?) bv
   simpa using this
  have Cz:(T.F c).drop (i+1)=ay:=by
   have:=congrArg List.tail bv
   simpa using this
  simp only [List.length_cons] at hH
  refine CF hK hc f hx (by lia) hP aq hk hg al fun cB mT aQ tZ j' aF h' g' p' ou cq bQ bk=>?_
  refine ih (i+1) Cz false _ cB mT tZ aQ j' aF h' g' p' ?_ ou cq bQ bk fun hs he q14 ns ito j tk h g hP aq hg al=>fin hs he q14 ns ito j tk h g hP ?_ hg al
  ·have:=qM T H x;lia
  ·have e:(f&&(x::ay).isEmpty)=(false&&ay.isEmpty):=by rw [Bool.false_and,List.isEmpty_cons,Bool.and_false]
   rw [e];exact aq
noncomputable def tO (f:Bool) (m u c b o lo hi tb ky:Value):List (Str×Value):=@Bool.rec (fun _=>List (Str×Value)) (t9 m u c b o lo hi tb ky) (t7 m u c b o lo hi) f
noncomputable abbrev It (w:World) (it l:Nat):Code:=ax (ai w 1107 7) (it+1109) (ab w l)
noncomputable abbrev qN (w:World) (it l:Nat) (f2:FN) (p2 p3:Pos):Ctx:=⟨It w it l,none,none,[(fn f2,p2),(CC,p3)],none⟩
theorem CK (w:World):bj (ai w 1107 7)=[]++[BC w]:=by kernel_rfl
theorem EZ (w:World):kI (cn (ai w 1107 7)):=fun _ _=>by kernel_rfl
theorem E0 (w:World):ki (BC w):=⟨by kernel_rfl,fun _ _=>by kernel_rfl⟩
theorem CL (hB:∀ k,PM (T.F k)) (hc:c < 4) {q6 q7 q8 q9 q10 aH q13 q14:Value}(hP:aB (Ae w b1 b2) h hs (fG T c))
  (aq:LN (W2 w b1 b2) pl t me un (tO (c==0) q6 q7 q8 q9 q10 aH (Aa hi) q13 q14) ns) (hk:Y<=8) (hg:AllBare g) (al:ag (Ae w b1 b2) h₀ Y (f8 l it hi t te he T ns (Bd t c) hs []) (j+1109) h)
  (nx:∀ cB mT aQ q13 q14 j tk h' g' p,aB (Ae w b1 b2) h' cB (fG T (c+1))->LN (W2 w b1 b2) pl t me un (t9 q6 q7 q8 q9 q10 aH (Aa hi) q13 q14) aQ->AllBare g'->ag (Ae w b1 b2) h₀ Y (f8 l it hi t te mT T aQ (Bd t (c+1)) cB []) (j+1109) h'->wpCode (Bf w b1 b2) (qN (W2 w b1 b2) it l f2 p2 p3) R p ⟨h',g',d,tk,os⟩):
  wpCode (Bf w b1 b2) (qN (W2 w b1 b2) it l f2 p2 p3) R p ⟨h,g,d,tk,os⟩:=by
 have hK:∀ k,Ks (T.F k):=fun k=>(hB k).1
 have r8:=al.sub [0,1,2,3,4,5,6,7] (an rfl) (by decide)
 have hv:(bM T.t0 T.t1 T.t2 T.t3)[c]?=some (.ref (T.t c+1109)):=by
  rcases c with _ | _ | _ | _ | c
  ·rfl
  ·rfl
  ·rfl
  ·rfl
  ·lia
 refine vY (ii:=1) (li:=3) (h₀:=h) (Y:=8) (EZ _) rfl hg r8 rfl rfl hv (fun pa=>d9 (CK _) ?_) p
 refine am.sub [0] rfl (by decide) rfl fun h1 aj=>?_
 have go:∀ (f:Bool) (q14:Value) (iB:Obj) (vS:Nat) (pz:Pos) (h2:Heap) (g2:Array GenState),LN (W2 w b1 b2) pl t me un (tH f q6 q7 q8 q9 q10 aH (.ref (hi+1109)) (.ref (T.t c+1109)) q14) iB->AllBare g2->ag (E2 (W2 w b1 b2)) h1 1 [(l+1109,iB)] (j+1109) h2->
   dx (E2 (W2 w b1 b2)) (DK (E2 (W2 w b1 b2)) (qN (W2 w b1 b2) it l f2 p2 p3) [az (W2 w b1 b2) 1107 7 0] (ab (W2 w b1 b2) l) (gm (E2 (W2 w b1 b2)) (qN (W2 w b1 b2) it l f2 p2 p3) (It (W2 w b1 b2) it l) R) fun _ _ _=>False) (qN (W2 w b1 b2) it l f2 p2 p3) (.done .next) pz ⟨h2,g2,d,vS,os⟩:=by
  intro f q14 iB vS pz h2 g2 gj ao aa
  have aS:ag (E2 (W2 w b1 b2)) h 8 (f8 l it hi t te he T iB (ba (t+1109) (c+1)) hs []) (j+1109) h2:=aj.join' [0] (by decide) rfl aa rfl
  intro pb
  refine jQ (h₀:=h2) (Y:=8) (E0 _) ao (aS.sub [0,1,2,3,4,5,6,7] (an rfl) (by decide)) fun pc=>?_
  have kK:∀ (j3 sn:Nat) (pz:Pos) (h3:Heap) (g3:Array GenState),AllBare g3->ag (E2 (W2 w b1 b2)) h2 8 (f8 l it hi t te he T iB (ba (t+1109) (c+1)) hs [(j3+1109,bA (T.t c+1109) 0 (T.e c).size (T.p c))]) (j3+1110) h3->
    Iq (Mo (E2 (W2 w b1 b2))) (qN (W2 w b1 b2) it l f2 p2 p3) (az (W2 w b1 b2) 1107 7 0) [] (ab (W2 w b1 b2) l) (gm (E2 (W2 w b1 b2)) (qN (W2 w b1 b2) it l f2 p2 p3) (It (W2 w b1 b2) it l) R) (fun _ _ _=>False) (.ok (.ret (.ref (j3+1109)))) ⟨h3,g3,d,sn,os⟩:=by
   intro j3 sn pz h3 g3 dY bc pd
   have bl:=aS.join' [0,1,2,3,4,5,6,7] (by decide) rfl bc rfl
   have mU:aB (E2 (W2 w b1 b2)) h3 hs (fG T c):=hP.step r8 bl rfl (bN.step (oF aq.t (gY _ _)) (by show 8<=9;lia))
   have r9:=bl.sub [0,8,2,3,4,5,6,7] (an rfl) (by decide)
   refine CJ (f1:=(cn (ai (W2 w b1 b2) 1107 7),.ref (it+1109),bj (ai (W2 w b1 b2) 1107 7),iw (ai (W2 w b1 b2) 1107 7),ab (W2 w b1 b2) l)) hK hc (h₀:=h3) (Y:=8) (Nat.le_refl _) (T.F c) 0 rfl f (fG T c) hs he q14 iB (j3+1) sn h3 g3 pd ?_ mU gj dY r9 fun Np Nq tZ Ic Oj j4 mR h4 g4 CG nu gG cP=>?_
   ·have:=nA hK c
    have:=(hK c).len
    lia
   ·intro pe
    have cQ:=(bl.join' [0,8,2,3,4,5,6,7] (by decide) rfl cP rfl).pick [0,1,2,3,4,5,6,7] 8 (by decide) (by decide) (Nat.le_refl _) rfl
    have hf:(f&&(T.F c).isEmpty)=false:=by
     cases q:T.F c with
     | nil=>exact absurd q (hB c).ne
     | cons _ _=>simp
    rw [hf] at nu
    exact nx Np Nq Ic _ _ j4 mR h4 g4 pe CG nu gG (al.join' [0,1,2,3,4,5,6,7] (by decide) rfl cQ rfl)
  cases f with
  | true=>
   induction gj with | @i kf q3 e0=>?_
   rcases c with _ | _ | _ | _ | c
   ·refine am.sub [0,4] rfl (by decide) rfl fun h3 bc=>?_
    exact tX pc (Nat.le_refl _) fun pz h3 g3 dY bl=>kK _ _ pz h3 g3 dY (bc.join' [0,4] (by decide) rfl bl rfl)
   ·refine am.sub [0,5] rfl (by decide) rfl fun h3 bc=>?_
    exact tX pc (Nat.le_refl _) fun pz h3 g3 dY bl=>kK _ _ pz h3 g3 dY (bc.join' [0,5] (by decide) rfl bl rfl)
   ·refine am.sub [0,6] rfl (by decide) rfl fun h3 bc=>?_
    exact tX pc (Nat.le_refl _) fun pz h3 g3 dY bl=>kK _ _ pz h3 g3 dY (bc.join' [0,6] (by decide) rfl bl rfl)
   ·refine am.sub [0,7] rfl (by decide) rfl fun h3 bc=>?_
    exact tX pc (Nat.le_refl _) fun pz h3 g3 dY bl=>kK _ _ pz h3 g3 dY (bc.join' [0,7] (by decide) rfl bl rfl)
   ·lia
  | false=>
   induction gj with | @i kf q3 e0=>?_
   rcases c with _ | _ | _ | _ | c
   ·refine am.sub [0,4] rfl (by decide) rfl fun h3 bc=>?_
    exact tY pc (Nat.le_refl _) fun pz h3 g3 dY bl=>kK _ _ pz h3 g3 dY (bc.join' [0,4] (by decide) rfl bl rfl)
   ·refine am.sub [0,5] rfl (by decide) rfl fun h3 bc=>?_
    exact tY pc (Nat.le_refl _) fun pz h3 g3 dY bl=>kK _ _ pz h3 g3 dY (bc.join' [0,5] (by decide) rfl bl rfl)
   ·refine am.sub [0,6] rfl (by decide) rfl fun h3 bc=>?_
    exact tY pc (Nat.le_refl _) fun pz h3 g3 dY bl=>kK _ _ pz h3 g3 dY (bc.join' [0,6] (by decide) rfl bl rfl)
   ·refine am.sub [0,7] rfl (by decide) rfl fun h3 bc=>?_
    exact tY pc (Nat.le_refl _) fun pz h3 g3 dY bl=>kK _ _ pz h3 g3 dY (bc.join' [0,7] (by decide) rfl bl rfl)
   ·lia
 rcases c with _ | c
 ·induction aq with | @i kf q3 e0=>?_
  exact Ir pa (Nat.le_refl _) fun pz h2 g2 ao aa=>go true .none _ _ pz h2 g2 LN.i ao aa
 ·induction aq with | @i kf q3 e0=>?_
  exact Is pa (Nat.le_refl _) fun pz h2 g2 ao aa=>go false _ _ _ pz h2 g2 LN.i ao aa
theorem CM (hB:∀ k,PM (T.F k)) (hk:Y<=8) {q6 q7 q8 q9 q10 aH:Value}
  (fin:∀ hs he q13 q14 ns ito j tk h g,aB (Ae w b1 b2) h hs (fG T 4)->LN (W2 w b1 b2) pl t me un (t9 q6 q7 q8 q9 q10 aH (Aa hi) q13 q14) ns->AllBare g->ag (Ae w b1 b2) h₀ Y (f8 l it hi t te he T ns ito hs []) (j+1109) h->R (.ok .next) ⟨h,g,d,tk,os⟩):
  ∀ (r c:Nat),c+r=4->∀ {hs:Array Value}{he j tk:Nat}{q13 q14:Value}{ns:Obj}{h:Heap}{g:Array GenState}{p:Pos},aB (Ae w b1 b2) h hs (fG T c)->LN (W2 w b1 b2) pl t me un (tO (c==0) q6 q7 q8 q9 q10 aH (Aa hi) q13 q14) ns->AllBare g->ag (Ae w b1 b2) h₀ Y (f8 l it hi t te he T ns (Bd t c) hs []) (j+1109) h->
   wpCode (Bf w b1 b2) (qN (W2 w b1 b2) it l f2 p2 p3) R p ⟨h,g,d,tk,os⟩:=by
 intro r
 induction r with
 | zero=>
  intro c hc hs he j tk q13 q14 ns h g p hP aq hg al
  obtain rfl:c=4:=hc
  have r8:=al.sub [0,1,2,3,4,5,6,7] (an rfl) (by decide)
  refine aD (E:=(E2 (W2 w b1 b2))) (h₀:=h) (Y:=8) hg r8 ?_
  refine am.sub [3,1] rfl (by decide) rfl fun h1 aj=>?_
  refine KF (Nat.le_refl _) p (Nat.le_refl _) fun x _ p2 h2 g2 ao aa=>?_
  have aS:=aj.join' [3,1] (by decide) rfl aa rfl
  exact fin hs he _ _ ns _ (j+2) _ h2 g2 (hP.step r8 aS rfl (bN.step (oF aq.t (gY _ _)) (Nat.le_refl _))) aq ao (al.join' [0,1,2,3,4,5,6,7] (by decide) rfl aS rfl)
 | succ r ih=>
  intro c hc hs he j tk q13 q14 ns h g p hP aq hg al
  refine CL hB (by lia) hP aq hk hg al fun cB mT aQ q13 q14 j tk h' g' p ou cq bQ bk=>?_
  exact ih (c+1) (by lia) ou cq bQ bk
theorem E1 (w:World):ki (ai w 1107 7):=⟨by kernel_rfl,fun _ _=>by kernel_rfl⟩
noncomputable abbrev Be:=fun (a:TG) b=>ac (bM a.t0 a.t1 a.t2 a.t3) b
theorem Nr {q6 q7 q8 q9 q10 aH:Value}(hB:∀ k,PM (T.F k)) (hk:Y<=7)
  (aq:LN (W2 w b1 b2) pl t me un (t7 q6 q7 q8 q9 q10 aH (Aa hi)) ns) (hg:AllBare g) (al:ag (Ae w b1 b2) h₀ Y ((l+1109,ns)::(hi+1109,ac #[] he)::(t+1109,Be T te)::T.m) (j+1109) h)
  (nx:∀ hs he q13 q14 ns j tk h g p,aB (Ae w b1 b2) h hs (fG T 4)->LN (W2 w b1 b2) pl t me un (t9 q6 q7 q8 q9 q10 aH (Aa hi) q13 q14) ns->AllBare g->ag (Ae w b1 b2) h₀ Y ((l+1109,ns)::(hi+1109,BM hs he)::(t+1109,Be T te)::T.m) (j+1109) h->wp (Bf w b1 b2) (By w b1 b2 l p4) (execs rest (Ax w b1 b2 l)) Q X p ⟨h,g,d,tk,os⟩):
  wp (Bf w b1 b2) (By w b1 b2 l p4) (execs (ai (W2 w b1 b2) 1107 7::rest) (Ax w b1 b2 l)) Q X p ⟨h,g,d,tk,os⟩:=by
 refine jQ (h₀:=h) (Y:=7) (E1 _) hg (al.sub [0,1,2,3,4,5,6] (an rfl) (by decide)) fun pa=>?_
 refine am.sub [0,2] rfl (by decide) rfl fun h1 aj=>?_
 induction aq with | @i kf q3 e0=>?_
 refine KG pa (Nat.le_refl _) fun pz h2 g2 ao aa=>?_
 intro pb
 have aS:=aj.join' [0,2] (by decide) rfl aa rfl
 have bc:=al.join' [0,1,2,3,4,5,6] (by decide) rfl aS rfl
 have bl:=bc.sub [0,7,1,2,3,4,5,6] (an rfl) (by decide)
 refine CM (f2:=(dQ (eW (W2 w b1 b2) 1107),ab (W2 w b1 b2) l)) (h₀:=h2) (Y:=8) hB (Nat.le_refl _) (fun hs he q13 q14 ns ito j tk h g hP aq hg cP=>?_) 4 0 rfl (j:=j+1) (q13:=.none) (q14:=.none) (aB.nil _ _) .i ao bl
 intro pc
 have cQ:=(bc.join' [0,7,1,2,3,4,5,6] (by decide) rfl cP rfl).pick [0,1,2,3,4,5,6] 7 (by decide) (by decide) hk rfl
 exact nx hs he q13 q14 ns j tk h g pc hP aq hg cQ
end
end
section
variable {A0 A1 A2 A3:KV}{a e0 ep ep0 ep1 ep2 ep3 he i it j kt l me n t t0 t1 te tk un:Nat}{b1 b2 pl r:Bool}{d:Drawn}{es es0 es1 es2 es3:Array DictEntry}{f2:FN}{k:Int}{ls:Array Value}{p2 p3 p4:Pos}{w:World}
noncomputable abbrev Br:=fun a=>ai a 1107 8
theorem KH {kf:Nat->Nat}{os:OsState}{t2 t3:Nat}{q3 q6 q7 q8 q9 q10 aH aK q13 q14:Value}:
  Qv w b1 b2 pl d os fun W pl=>⟨E2 W,3,(eK W l p4),oC (Br W) (ab W l),[(l+1109,bB W pl t me un kf q3 (t9 q6 q7 q8 q9 q10 aH aK q13 q14) e0),Bc t t0 t1 t2 t3 te,Ar t0 es0 ep0],j+1109,tk,.e (.e (.done (.ret (Aa j))) [(l+1109,(bB W pl t me un kf q3 (t9 q6 q7 q8 q9 q10 aH aK q13 q14) e0)),(t+1109,(BM #[(Aa t0),(Aa t1),(Aa t2),(Aa t3)] te)),(t0+1109,(au es0 ep0)),(j+1109,⟨(.type "dict_keyiterator"),none,.fields #[(Aa t0),(.int 0 0),(.int (↑es0.size) 0),(.int (↑ep0) 0)],#[]⟩)] (j+1110) (tk+1))⟩:=b7 87 (Hx 0x143330303320202221) [] [3] (by kernel_rfl)
theorem KI {kf:Nat->Nat}{os:OsState}{q3 q6 q7 q8 q9 q10 aH aK q13 q14:Value}:
  Qv w b1 b2 pl d os fun W pl=>⟨E2 W,1,⟨(AG (Br W) it W l),none,none,[(fn f2,p2),(CC,p3)],none⟩,ic (cn (Br W)) (.int k kt) [] (ab W l),[(l+1109,bB W pl t me un kf q3 (t9 q6 q7 q8 q9 q10 aH aK q13 q14) e0)],j+1109,tk,.e (.e (.done .next) [(l+1109,bB W pl t me un kf q3 (BE q6 q7 q8 q9 q10 aH aK q13 k kt) e0)] (j+1109) (tk+1))⟩:=b7 68 [1,1] [] [] (by kernel_rfl)
theorem KJ {kf:Nat->Nat}{os:OsState}{t2 t3:Nat}{q3 q6 q7 q8 q9 q10 aH aK q13:Value}(hr:decide ((min (min (min (ct A0 k) (ct A1 k)) (ct A2 k)) (ct A3 k))>0)=r) (h0:Z es0 A0) (h1:Z es1 A1) (h2:Z es2 A2) (h3:Z es3 A3):
  Qc b1 b2 pl d os fun b1 b2 pl=>⟨Ae w b1 b2,6,⟨(Ag (Br (W2 w b1 b2)) it w b1 b2 l),none,none,[(fn f2,p2),(CC,p3)],none⟩,jM (dq (dG (bj (Br (W2 w b1 b2))) 0)) (Ax w b1 b2 l),[(l+1109,AY w b1 b2 pl t me un kf q3 (BE q6 q7 q8 q9 q10 aH aK q13 k kt) e0),Bc t t0 t1 t2 t3 te,Ar t0 es0 ep0,Ar t1 es1 ep1,Ar t2 es2 ep2,Ar t3 es3 ep3],j+1109,tk,.c (no j tk t t0 t1 t2 t3 te kt ep0 ep1 ep2 ep3 k es0 es1 es2 es3 h0 h1 h2 h3 [1,2,3,4,5] (by decide) rfl) fun x1=>.c (jk false 6 (j+3) 4 #[.int (ct A0 k) x1.t0,.int (ct A1 k) x1.t1,.int (ct A2 k) x1.t2,.int (ct A3 k) x1.t3] #[(ct A0 k,x1.t0),(ct A1 k,x1.t1),(ct A2 k,x1.t2),(ct A3 k,x1.t3)] (by simp [intItems]) (by simp) (min (min (min (ct A0 k) (ct A1 k)) (ct A2 k)) (ct A3 k)) (tM _)) fun x2=>.u (jz (min (min (min (ct A0 k) (ct A1 k)) (ct A2 k)) (ct A3 k)) 0 r hr)<| .e (.e (.done (.ret (.bool r))) [(l+1109,AY w b1 b2 pl t me un kf q3 (BE q6 q7 q8 q9 q10 aH aK q13 k kt) e0),(t+1109,(Aw t0 t1 t2 t3 te)),Ar t0 es0 ep0,Ar t1 es1 ep1,Ar t2 es2 ep2,Ar t3 es3 ep3] ((x2.j)+1109) ((x2.3)+1))⟩:=b7 85 [0,0,0,1,1,0,1] [[1],[0,1],[]] [] (by kernel_rfl)
theorem Iu {kf:Nat->Nat}{os:OsState}{t2 t3 lo:Nat}{q3 q6 q7 q8 q9 q10 aK q13:Value}(hn:ls.size<=1000) (h0:Z es0 A0) (h1:Z es1 A1) (h2:Z es2 A2) (h3:Z es3 A3):
  Qc b1 b2 pl d os fun b1 b2 pl=>⟨Ae w b1 b2,7,⟨(Ag (Br (W2 w b1 b2)) it w b1 b2 l),none,none,[(fn f2,p2),(CC,p3)],none⟩,c9 [dG (gJ (dG (bj (Br (W2 w b1 b2))) 0)) 0] (Ax w b1 b2 l),[(l+1109,AY w b1 b2 pl t me un kf q3 (BE q6 q7 q8 q9 q10 (Aa lo) aK q13 k kt) e0),AR lo ls he,Bc t t0 t1 t2 t3 te,Ar t0 es0 ep0,Ar t1 es1 ep1,Ar t2 es2 ep2,Ar t3 es3 ep3],j+1109,tk,.c (no j tk t t0 t1 t2 t3 te kt ep0 ep1 ep2 ep3 k es0 es1 es2 es3 h0 h1 h2 h3 [2,3,4,5,6] (by decide) rfl) fun x1=>.c (jk false 7 (j+3) 4 #[.int (ct A0 k) x1.t0,.int (ct A1 k) x1.t1,.int (ct A2 k) x1.t2,.int (ct A3 k) x1.t3] #[(ct A0 k,x1.t0),(ct A1 k,x1.t1),(ct A2 k,x1.t2),(ct A3 k,x1.t3)] (by simp [intItems]) (by simp) (min (min (min (ct A0 k) (ct A1 k)) (ct A2 k)) (ct A3 k)) (tM _)) fun x2=>.u (kJ 1 (lo+1109) he ls (Aa x2.j) hn)<| .e (.e (.done .next) [(l+1109,AY w b1 b2 pl t me un kf q3 (BE q6 q7 q8 q9 q10 (Aa lo) aK q13 k kt) e0),(lo+1109,(BM (ls.push (Value.ref (x2.j+1109))) (he+1))),(t+1109,(Aw t0 t1 t2 t3 te)),Ar t0 es0 ep0,Ar t1 es1 ep1,Ar t2 es2 ep2,Ar t3 es3 ep3,((x2.j)+1109,⟨(.type "tuple"),none,.seq #[(.int k kt),(.int (min (min (min (ct A0 k) (ct A1 k)) (ct A2 k)) (ct A3 k)) (x2.t))] 0,#[]⟩)] ((x2.j)+1110) ((x2.3)))⟩:=b7 98 (Hx 0x11011000122221) [[1],[0,2,1],[]] [8] (by kernel_rfl)
theorem KK {os:OsState}(hn:es.size=n) (hx:n<=i):
  Qw w b1 b2 d os fun W=>⟨E2 W,2,⟨(AG (Br W) it W l),none,none,[(fn f2,p2),(CC,p3)],none⟩,den (AG (Br W) it W l),[Ar a es ep,(it+1109,Bg a i n ep)],j+1109,tk,.c (jC 1 0 (it+1109) (a+1109) i n ep (au es ep) es rfl hn hx) fun x1=>.e (.e (.done .next) [(a+1109,(au es ep)),(it+1109,(x1))] (j+1111) tk)⟩:=bU 69 [2,0,2,1] [[4,0]] [] (by kernel_rfl)
end
noncomputable def kY (T:TG) (L:KV) (x:Int×Int):KV:=if T.mn x.1>0 then L++[(x.1,T.mn x.1)] else L
theorem CN (T:TG) (H:KV) (x:Int×Int):(kY T H x).length<=H.length+1:=by
 unfold kY
 split
 ·simp
 ·lia
section
variable {d:Drawn}{os:OsState}{w:World}{b1 b2:Bool}{t me un l it lo te:Nat}{pl:Bool}{T:TG}{f2:FN}{p2 p3:Pos}{h₀:Heap}{Y:Nat}{R:Result->Shared->Prop}
noncomputable abbrev KL (w:World) (it l:Nat):Code:=ax (ai w 1107 8) (it+1109) (ab w l)
noncomputable abbrev CO (w:World) (it l:Nat) (f2:FN) (p2 p3:Pos):Ctx:=⟨KL w it l,none,none,[(fn f2,p2),(CC,p3)],none⟩
noncomputable abbrev vZ (w:World):Stmt:=dG (bj (ai w 1107 8)) 0
theorem CQ (w:World):bj (Br w)=[]++[vZ w]:=by kernel_rfl
theorem E3 (w:World):kI (cn (Br w)):=fun _ _=>by kernel_rfl
theorem Iv (w:World):nw (vZ w):=by kernel_rfl
theorem Iw (w:World):gJ (vZ w)=[dG (gJ (vZ w)) 0]:=by kernel_rfl
theorem E4 (w:World):ki (Br w):=⟨by kernel_rfl,fun _ _=>by kernel_rfl⟩
theorem CR {i he j tk:Nat}{x:Int×Int}(hx:T.F0[i]?=some x) {L:KV}(hH:L.length<=900) {ls:Array Value}{q6 q7 q8 q9 q10 aK q13 q14:Value}{ns:Obj}{h:Heap}{g:Array GenState}{p:Pos}(hP:aB (Ae w b1 b2) h ls L)
  (aq:LN (W2 w b1 b2) pl t me un (t9 q6 q7 q8 q9 q10 (Aa lo) aK q13 q14) ns) (hk:Y<=8) (hg:AllBare g) (al:ag (Ae w b1 b2) h₀ Y (f8 l it lo t te he T ns (bA (T.t0+1109) i T.e0.size T.p0) ls []) (j+1109) h)
  (nx:∀ KM mT aQ q14 j tk h' g' p,aB (Ae w b1 b2) h' KM (kY T L x)->LN (W2 w b1 b2) pl t me un (t9 q6 q7 q8 q9 q10 (Aa lo) aK q13 q14) aQ->AllBare g'->ag (Ae w b1 b2) h₀ Y (f8 l it lo t te mT T aQ (Bg T.t0 (i+1) T.e0.size T.p0) KM []) (j+1109) h'->wpCode (Bf w b1 b2) (CO (W2 w b1 b2) it l f2 p2 p3) R p ⟨h',g',d,tk,os⟩):
  wpCode (Bf w b1 b2) (CO (W2 w b1 b2) it l f2 p2 p3) R p ⟨h,g,d,tk,os⟩:=by
 obtain ⟨kt,u,Im⟩:=T.h0.at hx
 have r8:=al.sub [0,1,2,3,4,5,6,7] (an rfl) (by decide)
 have nt:∀ {ns:Obj}{N:Nat}{he:Nat}{hs:Array Value},cL ns=false->bN (f8 l it lo t te he T ns (bA (T.t0+1109) N T.e0.size T.p0) hs []):=fun h=>oF h (gZ _ _ _ _)
 refine ny (ii:=1) (h₀:=h) (Y:=8) (E3 _) rfl hg r8 rfl (r8.own 4 _ _ rfl) rfl rfl Im (fun pa=>d9 (CQ _) ?_) p
 refine am.sub [0] rfl (by decide) rfl fun h1 aj=>?_
 induction aq with | @i kf q3 e0=>?_
 refine KI pa (Nat.le_refl _) fun pz h2 g2 ao aa=>?_
 have aS:=aj.join' [0] (by decide) rfl aa rfl
 intro pb
 refine my (Iv _) fun pc=>?_
 refine jN (h₀:=h2) (Y:=6) ao (aS.sub [0,3,4,5,6,7] (an rfl) (by decide)) ?_
 refine KJ (r:=decide (T.mn x.1>0)) rfl T.h0 T.h1 T.h2 T.h3 pc (Nat.le_refl _) fun _ _ x3 _ EX h3 g3 dY bc=>?_
 have bl:=aS.join' [0,3,4,5,6,7] (by decide) rfl bc rfl
 have mU:aB (E2 (W2 w b1 b2)) h3 ls L:=hP.step r8 bl rfl (bN.step (nt (jP _ _)) (Nat.le_refl _))
 intro pd
 by_cases b9:T.mn x.1>0
 ·rw [decide_eq_true b9]
  show wp (Mo (E2 (W2 w b1 b2))) (CO (W2 w b1 b2) it l f2 p2 p3) (execs (gJ (vZ (W2 w b1 b2))++[]) (ab (W2 w b1 b2) l)) (gm (E2 (W2 w b1 b2)) (CO (W2 w b1 b2) it l f2 p2 p3) (KL (W2 w b1 b2) it l) R) (fun _ _ _=>False) pd ⟨h3,g3,d,_,os⟩
  rw [Iw]
  refine cO (h₀:=h3) (Y:=7) (l:=[dG (gJ (vZ (W2 w b1 b2))) 0]) (rest:=[]) dY (bl.sub [0,2,3,4,5,6,7] (an rfl) (by decide)) ?_
  refine Iu (by have:=mU.1;lia) T.h0 T.h1 T.h2 T.h3 pd (Nat.le_refl _) fun _ _ x2 _ Io h5 g5 fY fw=>?_
  have eY:=bl.join' [0,2,3,4,5,6,7] (by decide) rfl fw rfl
  have Ip:aB (E2 (W2 w b1 b2)) h5 ls L:=mU.step (bl.sub [0,1,2,3,4,5,6,7] (an rfl) (by decide)) (ag.join' (bl.sub [0,1,2,3,4,5,6,7] (an rfl) (by decide)) [0,2,3,4,5,6,7] (by decide) rfl fw rfl) rfl (bN.step (nt (jP _ _)) (by show 8<=9;lia))
  intro pf
  have e:kY T L x=L++[(x.1,T.mn x.1)]:=by unfold kY;rw [if_pos b9]
  refine nx _ (he+1) _ (.int x.1 kt) (x2.j+1) _ h5 g5 pf (e.symm▸Ip.push (eY.own 8 _ _ rfl) (eY.off 8 _ _ rfl)) ?_ fY (al.join' [0,1,2,3,4,5,6,7] (by decide) rfl (eY.pick [0,1,2,3,4,5,6,7] 8 (by decide) (by decide) (Nat.le_refl _) rfl) rfl)
  exact LN.i
 ·rw [decide_eq_false b9]
  have e:kY T L x=L:=by unfold kY;rw [if_neg b9]
  refine nx ls he _ (.int x.1 kt) x3.j _ h3 g3 pd (e.symm▸mU) ?_ dY (al.join' [0,1,2,3,4,5,6,7] (by decide) rfl bl rfl)
  exact LN.i
theorem CS {q6 q7 q8 q9 q10 aK q13:Value}(hk:Y<=8):
  ∀ (ay:KV) (i:Nat),T.F0.drop i=ay->∀ (L:KV) (ls:Array Value) (he:Nat) (q14:Value) (ns:Obj) (j tk:Nat) (h:Heap) (g:Array GenState) (p:Pos),L.length+ay.length<=900->aB (Ae w b1 b2) h ls L->LN (W2 w b1 b2) pl t me un (t9 q6 q7 q8 q9 q10 (Aa lo) aK q13 q14) ns->AllBare g->ag (Ae w b1 b2) h₀ Y (f8 l it lo t te he T ns (bA (T.t0+1109) i T.e0.size T.p0) ls []) (j+1109) h->
   (∀ ls he q14 ns ito j tk h g,aB (Ae w b1 b2) h ls (ay.foldl (kY T) L)->LN (W2 w b1 b2) pl t me un (t9 q6 q7 q8 q9 q10 (Aa lo) aK q13 q14) ns->AllBare g->ag (Ae w b1 b2) h₀ Y (f8 l it lo t te he T ns ito ls []) (j+1109) h->R (.ok .next) ⟨h,g,d,tk,os⟩)->
   wpCode (Bf w b1 b2) (CO (W2 w b1 b2) it l f2 p2 p3) R p ⟨h,g,d,tk,os⟩:=by
 intro ay
 induction ay with
 | nil=>
  intro i bv L ls he q14 ns j tk h g p hH hP aq hg al fin
  have hl:T.e0.size<=i:=by
   rw [T.h0.size]
   have:=congrArg List.length bv
   simp at this;lia
  have r8:=al.sub [0,1,2,3,4,5,6,7] (an rfl) (by decide)
  refine aD (E:=(E2 (W2 w b1 b2))) (h₀:=h) (Y:=8) hg r8 ?_
  refine am.sub [4,1] rfl (by decide) rfl fun h1 aj=>?_
  refine KK rfl hl p (Nat.le_refl _) fun x _ p2 h2 g2 ao aa=>?_
  have aS:=aj.join' [4,1] (by decide) rfl aa rfl
  exact fin ls he q14 ns _ (j+2) _ h2 g2 (hP.step r8 aS rfl (bN.step (oF aq.t (gZ _ _ _ _)) (Nat.le_refl _))) aq ao (al.join' [0,1,2,3,4,5,6,7] (by decide) rfl aS rfl)
 | cons x ay ih=>
  intro i bv L ls he q14 ns j tk h g p hH hP aq hg al fin
  have hx:T.F0[i]?=some x:=by
   have:=congrArg (fun l=>l[0]?) bv
   simpa using this
  have Cz:T.F0.drop (i+1)=ay:=by
   have:=congrArg List.tail bv
   simpa using this
  simp only [List.length_cons] at hH
  refine CR hx (by lia) hP aq hk hg al fun cB mT aQ tZ j' aF h' g' p' ou cq bQ bk=>?_
  refine ih (i+1) Cz _ cB mT tZ aQ j' aF h' g' p' ?_ ou cq bQ bk fin
  have:=CN T L x;lia
theorem Ns {rest:List Stmt}{Q:Flow->Pos->Shared->Prop}{X:Value->Pos->Shared->Prop}{p p4:Pos}{he j tk:Nat}{q6 q7 q8 q9 q10 aK q13 q14:Value}{ns:Obj}{h:Heap}{g:Array GenState}(hB:∀ k,PM (T.F k))
  (aq:LN (W2 w b1 b2) pl t me un (t9 q6 q7 q8 q9 q10 (Aa lo) aK q13 q14) ns) (hg:AllBare g) (al:ag (Ae w b1 b2) h₀ Y ((l+1109,ns)::(lo+1109,ac #[] he)::(t+1109,Be T te)::T.m) (j+1109) h)
  (nx:∀ ls he q14 ns j tk h' g p,aB (Ae w b1 b2) h' ls (T.F0.foldl (kY T) [])->LN (W2 w b1 b2) pl t me un (t9 q6 q7 q8 q9 q10 (Aa lo) aK q13 q14) ns->AllBare g->ag (Ae w b1 b2) h 7 ((l+1109,ns)::(lo+1109,BM ls he)::(t+1109,Be T te)::T.m) (j+1109) h'->wp (Bf w b1 b2) (By w b1 b2 l p4) (execs rest (Ax w b1 b2 l)) Q X p ⟨h',g,d,tk,os⟩):
  wp (Bf w b1 b2) (By w b1 b2 l p4) (execs (Br (W2 w b1 b2)::rest) (Ax w b1 b2 l)) Q X p ⟨h,g,d,tk,os⟩:=by
 have r7:=al.sub [0,1,2,3,4,5,6] (an rfl) (by decide)
 refine jQ (h₀:=h) (Y:=7) (E4 _) hg r7 fun pa=>?_
 refine am.sub [0,2,3] rfl (by decide) rfl fun h1 aj=>?_
 induction aq with | @i kf q3 e0=>?_
 refine KH pa (Nat.le_refl _) fun pz h2 g2 ao aa=>?_
 intro pb
 have bc:=aj.join' [0,2,3] (by decide) rfl aa rfl
 have bl:=bc.sub [0,7,1,2,3,4,5,6] (an rfl) (by decide)
 refine CS (f2:=(dQ (eW (W2 w b1 b2) 1107),ab (W2 w b1 b2) l)) (h₀:=h2) (Y:=8) (Nat.le_refl _) T.F0 0 rfl [] #[] he q14 _ (j+1) _ h2 g2 pb (by have:T.F0.length<=6:=(hB 0).1.len;simp;lia) (aB.nil _ _) .i ao bl fun ls he q14 ns ito j tk h g hP aq hg cP=>?_
 intro pc
 have cQ:=(bc.join' [0,7,1,2,3,4,5,6] (by decide) rfl cP rfl).pick [0,1,2,3,4,5,6] 7 (by decide) (by decide) (Nat.le_refl _) rfl
 exact nx ls he q14 ns j tk h g pc hP aq hg cQ
end
section
variable {L:KV}{b da e0 ep hi j l me t tk un:Nat}{b1 b2 pl:Bool}{d:Drawn}{es:Array DictEntry}{p4:Pos}{w:World}
theorem KN {kf:Nat->Nat}{os:OsState}{q3 q6 q8 q9 q10 aH aK q13 q14:Value}(hL:Z es L) (hn:L.length<=1000):
  Qv w b1 b2 pl d os fun W pl=>⟨E2 W,3,(eK W l p4),oy (dN (mw (dq (ai W 1107 9)))) (ab W l),[(l+1109,bB W pl t me un kf q3 (t9 q6 (.ref (b+1109)) q8 q9 q10 aH aK q13 q14) e0),(da+1109,av),(b+1109,ah (da+1109) es ep)],j+1109,tk,.c (iL true (j+1) 3 2 (j+1109) (b+1109) (ah (da+1109) es ep) es ep rfl hL hn) fun x1=>.e (.a (.done (.ret (.ref (j+1110)))) ((b8 [(l+1109,(bB W pl t me un kf q3 (t9 q6 (.ref (b+1109)) q8 q9 q10 aH aK q13 q14) e0)),(da+1109,(av)),(b+1109,(ah (da+1109) es ep)),(j+1109,⟨(.type "dict_items"),none,.fields #[(.ref (b+1109))],#[]⟩),(j+1110,(ac (iV.xs x1) (x1.e)))] x1.tl)) ((x1.j)+1109) ((x1.6)))⟩:=b7 97 (Hx 0x11033003023000300030003100) [[]] [] (by kernel_rfl)
theorem KO {kf:Nat->Nat}{os:OsState}{q3 q7 q8 q9 q10 aH aK q13 q14:Value}(hL:Z es L) (hn:L.length<=1000):
  Qv w b1 b2 pl d os fun W pl=>⟨E2 W,3,(eK W l p4),oy (dN (eU (dq (ai W 1107 9)))) (ab W l),[(l+1109,bB W pl t me un kf q3 (t9 (.ref (b+1109)) q7 q8 q9 q10 aH aK q13 q14) e0),(da+1109,av),(b+1109,ah (da+1109) es ep)],j+1109,tk,.c (iL true (j+1) 3 2 (j+1109) (b+1109) (ah (da+1109) es ep) es ep rfl hL hn) fun x1=>.e (.a (.done (.ret (.ref (j+1110)))) ((b8 [(l+1109,(bB W pl t me un kf q3 (t9 (.ref (b+1109)) q7 q8 q9 q10 aH aK q13 q14) e0)),(da+1109,(av)),(b+1109,(ah (da+1109) es ep)),(j+1109,⟨(.type "dict_items"),none,.fields #[(.ref (b+1109))],#[]⟩),(j+1110,(ac (iV.xs x1) (x1.e)))] x1.tl)) ((x1.j)+1109) ((x1.6)))⟩:=b7 97 (Hx 0x11033003023000300030003100) [[]] [] (by kernel_rfl)
theorem KP {kf:Nat->Nat}{os:OsState}{q3 q6 q7 q8 q9 q10 aH q13 q14:Value}:
  Qv w b1 b2 pl d os fun W pl=>⟨E2 W,1,(eK W l p4),oy (bT (mw (dq (ai W 1107 9)))) (ab W l),[(l+1109,bB W pl t me un kf q3 (t9 q6 q7 q8 q9 q10 aH (.ref (hi+1109)) q13 q14) e0)],j+1109,tk,.e (.e (.done (.ret (.ref (hi+1109)))) [(l+1109,(bB W pl t me un kf q3 (t9 q6 q7 q8 q9 q10 aH (.ref (hi+1109)) q13 q14) e0))] (j+1109) tk)⟩:=b7 63 [1] [] [] (by kernel_rfl)
theorem KQ {kf:Nat->Nat}{os:OsState}{lo:Nat}{q3 q6 q7 q8 q9 q10 aK q13 q14:Value}:
  Qv w b1 b2 pl d os fun W pl=>⟨E2 W,1,(eK W l p4),oy (bT (eU (dq (ai W 1107 9)))) (ab W l),[(l+1109,bB W pl t me un kf q3 (t9 q6 q7 q8 q9 q10 (.ref (lo+1109)) aK q13 q14) e0)],j+1109,tk,.e (.e (.done (.ret (.ref (lo+1109)))) [(l+1109,(bB W pl t me un kf q3 (t9 q6 q7 q8 q9 q10 (.ref (lo+1109)) aK q13 q14) e0))] (j+1109) tk)⟩:=b7 63 [1] [] [] (by kernel_rfl)
end
section
open SeqAt
section
variable {M:Model}{Γ:Ctx}{env:Env}{p:Pos}{s:Shared}
noncomputable abbrev mz (op:CmpOp) (e:Expr):Prop:=e=.Compare (dN e) [op] [bT e] e.pos
theorem KR {op:CmpOp}(oG:op=.Eq∨op=.NotEq) {r:Expr}:markedEach [op] [r] (evalEach [r] env)=[eval r env]:=by
 have e:behindInMarks op r=false:=by
  unfold behindInMarks
  split
  ·rcases oG with rfl | rfl<;>simp
  ·rfl
 show [markedBehindIn op r (eval r env)]=_
 unfold markedBehindIn
 rw [e]
theorem CT {op:CmpOp}(oG:op=.Eq∨op=.NotEq) {l r:Expr}{x:Sem Value}{Q:Bool->Pos->Shared->Prop}
  (h:wp M Γ (eval l env) (fun v p s=>wp M Γ (eval r env) (fun rv p s=>∀ p,wp M Γ (compareOp op v rv) (fun c p s=>∃ b,c=.bool b/\Q b p s) X p s) X p s) X p s):wp M Γ (isTrue (.Compare l [op] [r] ps) env x) Q X p s:=by
 have e1:markedEach [op] [r] (evalEach [r] env)=[eval r env]:=by
  exact KR oG
 show wp M Γ (eval l env>>=fun v=>testChain ps v [op] (markedEach [op] [r] (evalEach [r] env))) Q X p s
 rw [e1,Sem.wp_bind']
 refine Sem.wp_mono M Γ _ (fun v p' s' h=>?_) (fun _ _ _ h=>h) _ _ h
 show wp M Γ (holding [v] (eval r env)>>=fun rv=>standAt ps>>=fun _=>operate [v,rv] (compareOp op v rv)>>=fun c=>holding [c] (truthy c)) Q X p' s'
 simp only [Sem.wp_bind',Sem.wp_holding,Sem.wp_cmd_standAt,Sem.wp_operate]
 refine Sem.wp_mono M Γ _ (fun rv p' s' h=>?_) (fun _ _ _ h=>h) _ _ h
 refine Sem.wp_mono M Γ _ (fun c p' s' h=>?_) (fun _ _ _ h=>h) _ _ (h ps)
 obtain ⟨b,rfl,h⟩:=h
 exact h
theorem ua {op:CmpOp}(oG:op=.Eq∨op=.NotEq) {e:Expr}{x:Sem Value}{Q:Bool->Pos->Shared->Prop}(he:mz op e)
  (h:wp M Γ (eval (dN e) env) (fun v p s=>wp M Γ (eval (bT e) env) (fun rv p s=>∀ p,wp M Γ (compareOp op v rv) (fun c p s=>∃ b,c=.bool b/\Q b p s) X p s) X p s) X p s):wp M Γ (isTrue e env x) Q X p s:=by
 rw [he];exact CT oG h
theorem v0 {op:CmpOp}(oG:op=.Eq∨op=.NotEq) {l r:Expr}
  (h:wp M Γ (eval l env) (fun v p s=>wp M Γ (eval r env) (fun rv p s=>∀ p,wp M Γ (compareOp op v rv) Q X p s) X p s) X p s):wp M Γ (eval (.Compare l [op] [r] ps) env) Q X p s:=by
 have e1:markedEach [op] [r] (evalEach [r] env)=[eval r env]:=by
  exact KR oG
 show wp M Γ (eval l env>>=fun v=>compareChain ps v [op] (markedEach [op] [r] (evalEach [r] env))) Q X p s
 rw [e1,Sem.wp_bind']
 refine Sem.wp_mono M Γ _ (fun v p' s' h=>?_) (fun _ _ _ h=>h) _ _ h
 show wp M Γ (holding [v] (eval r env)>>=fun rv=>standAt ps>>=fun _=>operate [v,rv] (compareOp op v rv)) Q X p' s'
 simp only [Sem.wp_bind',Sem.wp_holding,Sem.wp_cmd_standAt,Sem.wp_operate]
 exact Sem.wp_mono M Γ _ (fun rv p' s' h=>h ps) (fun _ _ _ h=>h) _ _ h
theorem CU {op:CmpOp}(oG:op=.Eq∨op=.NotEq) {e:Expr}(he:mz op e)
  (h:wp M Γ (eval (dN e) env) (fun v p s=>wp M Γ (eval (bT e) env) (fun rv p s=>∀ p,wp M Γ (compareOp op v rv) Q X p s) X p s) X p s):wp M Γ (eval e env) Q X p s:=by
 rw [he];exact v0 oG h
end
section
section
variable {E:En}{L U:KV}{Q X:Value->Pos->Shared->Prop}{a b da db e e' ep fp he j le tk:Nat}{es fs:Array DictEntry}{g:Array GenState}{h:Heap}{hs ls xs ys:Array Value}{ns:Obj}{p p4 ps:Pos}{rest:List Stmt}{Γ:Ctx}
variable {E:En}{A:Around}{s:Shared}{xs ys:Array Value}{L:KV}
theorem mA (hu:A.units < cLine) (p:aB E s.heap xs L) (q:aB E s.heap ys L) (j:Nat) (h1:j < xs.size) (h2:j < ys.size):EqAt A s xs[j] ys[j] true:=by
 have hj:j < L.length:=by rw [<- p.1];exact h1
 obtain ⟨a,t,u,e1,e2,_⟩:=p.2 j L[j] (List.getElem?_eq_getElem hj)
 obtain ⟨b,t',u',f1,f2,_⟩:=q.2 j L[j] (List.getElem?_eq_getElem hj)
 rw [Array.getElem?_eq_getElem h1] at e1
 rw [Array.getElem?_eq_getElem h2] at f1
 rw [Option.some.inj e1,Option.some.inj f1]
 by_cases sf:a=b
 ·subst sf;exact EqAt.same _
 ·have z:=RcAt.tuples (A:=A) (s:=s) (l:=a) (b:=b) (items:=#[.int L[j].1 t,.int L[j].2 u]) (items2:=#[.int L[j].1 t',.int L[j].2 u']) (e:=fun _=>true) ⟨_,e2,rfl,0,rfl⟩ ⟨_,f2,rfl,0,rfl⟩ hu (fun i i1 i2=>by
   have i1:i < 2:=i1
   rcases i with _ | _ | i
   ·have:=EqAt.int_int (A:=A.in1) (s:=s) L[j].1 t L[j].1 t'
    rw [beq_self_eq_true] at this;exact this
   ·have:=EqAt.int_int (A:=A.in1) (s:=s) L[j].2 u L[j].2 u'
    rw [beq_self_eq_true] at this;exact this
   ·lia)
  exact EqAt.of_refs sf z
theorem jp (A:Around):A.in1.units<=A.units+1:=by
 show A.units+_<=_
 first | exact Nat.le_refl _ | decide | lia
theorem v1 {a b:Addr}(hu:A.units+1 < cLine) (ha:s.heap.get? a=some (BM xs e)) (hb:s.heap.get? b=some (BM ys e')) (p:aB E s.heap xs L) (q:aB E s.heap ys L):RcNeAt A s (.ref a) (.ref b) false:=by
 have z:=RcNeAt.lists (A:=A) (s:=s) (e:=fun _=>true) (l:=a) (b:=b) ⟨_,ha,rfl,e,rfl⟩ ⟨_,hb,rfl,e',rfl⟩ (p.1.trans q.1.symm) (by lia) (fun j h1 h2=>mA (Nat.lt_of_le_of_lt (jp A) hu) p q j h1 h2)
 have e:(!(List.range xs.size).all fun _=>true)=false:=by simp
 rw [e] at z
 exact z
theorem qO {a b:Addr}(hu:A.units+1 < cLine) (ha:s.heap.get? a=some (BM xs e)) (hb:s.heap.get? b=some (BM ys e')) (p:aB E s.heap xs L) (q:aB E s.heap ys L):EqAt A s (.ref a) (.ref b) true:=by
 by_cases sf:a=b
 ·subst sf;exact EqAt.same _
 ·have z:=RcAt.lists (A:=A) (s:=s) (e:=fun _=>true) (l:=a) (b:=b) ⟨_,ha,rfl,e,rfl⟩ ⟨_,hb,rfl,e',rfl⟩ (p.1.trans q.1.symm) (by lia) (fun j h1 h2=>mA (Nat.lt_of_le_of_lt (jp A) hu) p q j h1 h2)
  have e:((List.range xs.size).all fun _=>true)=true:=by simp
  rw [e] at z
  exact EqAt.of_refs sf z
end
section
variable {d:Drawn}{os:OsState}{w:World}{b1 b2:Bool}{t me un l hi lo:Nat}{pl:Bool}{h₀:Heap}{Y:Nat}
noncomputable abbrev BH:=fun a=>ai a 1107 9
theorem Ix (w:World):nw (BH w):=by kernel_rfl
theorem Iy (w:World):Gi (dq (BH w)):=by kernel_rfl
theorem KS (w:World):mz .NotEq (mw (dq (BH w))):=by kernel_rfl
theorem KT (w:World):mz .NotEq (eU (dq (BH w))):=by kernel_rfl
theorem mB (w:World) (l:Nat) (p4:Pos):(dk (eK w l p4)).units < 100:=Nat.le_of_ble_eq_true (by kernel_rfl:Nat.ble ((dk (eK w l p4)).units+1) 100=true)
theorem nC (w:World) (l:Nat) (p4:Pos):(dk (eK w l p4)).units+1 < cLine:=by
 have:=mB w l p4
 have e:cLine=9900:=rfl
 lia
theorem CV (hu:(dk Γ).units+1 < cLine) {a b:Addr}(ha:h.get? a=some (BM xs e)) (hb:h.get? b=some (BM ys e')) (pa:aB E h xs L) (pb:aB E h ys L) (k:∀ p,Q (.bool false) p ⟨h,g,d,tk,os⟩):
  wp (Mo E) Γ (compareOp .NotEq (.ref a) (.ref b)) Q X p ⟨h,g,d,tk,os⟩:=by
 have cm:wpAny (Mo E) (dk Γ) (compareOp .NotEq (.ref a) (.ref b)) (fun c s=>c=.bool false/\s=⟨h,g,d,tk,os⟩) (fun _ _=>False) ⟨h,g,d,tk,os⟩:=v1 (s:=⟨h,g,d,tk,os⟩) hu ha hb pa pb _ _ _ _ ⟨rfl,rfl⟩
 refine Sem.wp_mono _ _ _ (fun c p' s' h=>?_) (fun _ _ _ h=>h.elim) _ _ (bm cm p)
 obtain ⟨rfl,rfl⟩:=h
 exact k p'
theorem Nt {Q:Flow->Pos->Shared->Prop}{M:KV}{q8 q9 q10 q13 q14:Value}(hU:Z es U) (hM:Z fs M) (nU:U.length<=1000) (nM:M.length<=1000) (pH:aB (Ae w b1 b2) h hs U) (pL:aB (Ae w b1 b2) h ls M)
  (aq:LN (W2 w b1 b2) pl t me un (t9 (Aa b) (Aa a) q8 q9 q10 (Aa lo) (Aa hi) q13 q14) ns) (hg:AllBare g) (al:ag (Ae w b1 b2) h₀ Y [A6 l ns,Aj da,Ac a da es ep,Aj db,Ac b db fs fp,AR hi hs he,AR lo ls le] (j+1109) h)
  (nx:∀ j tk h' g p,AllBare g->ag (Ae w b1 b2) h 7 [A6 l ns,Aj da,Ac a da es ep,Aj db,Ac b db fs fp,AR hi hs he,AR lo ls le] (j+1109) h'->wp (Bf w b1 b2) (By w b1 b2 l p4) (execs rest (Ax w b1 b2 l)) Q X p ⟨h',g,d,tk,os⟩):
  wp (Bf w b1 b2) (By w b1 b2 l p4) (execs (BH (W2 w b1 b2)::rest) (Ax w b1 b2 l)) Q X p ⟨h,g,d,tk,os⟩:=by
 have r7:ag (E2 (W2 w b1 b2)) h 7 [(l+1109,ns),(da+1109,av),(a+1109,ah (da+1109) es ep),(db+1109,av),(b+1109,ah (db+1109) fs fp),(hi+1109,ac hs he),(lo+1109,ac ls le)] (j+1109) h:=al.sub [0,1,2,3,4,5,6] (an rfl) (by decide)
 have nt:bN [(l+1109,ns),(da+1109,av),(a+1109,ah (da+1109) es ep),(db+1109,av),(b+1109,ah (db+1109) fs fp),(hi+1109,ac hs he),(lo+1109,ac ls le)]:=⟨aq.t,f7,by kernel_rfl,f7,by kernel_rfl,bI _ _,bI _ _,trivial⟩
 have KU:=aq.t
 induction aq with | @i kf q3 e0=>?_
 refine my (Ix _) fun pa=>Ie (Iy _) ?_
 refine ua (.inr rfl) (KS _) ?_
 refine iN hg r7 ?_
 refine am.sub [0,1,2] rfl (by decide) rfl fun h1 aj=>?_
 refine KN hU nU pa (Nat.le_refl _) fun x _ pz h2 g2 ao aa=>?_
 intro pb
 have pX:aB (E2 (W2 w b1 b2)) h2 x.xs U:=x.hP.heap aa
 have aS:=aj.join' [0,1,2] (by decide) rfl (aa.pick [0,1,2,4] 3 (by decide) (by decide) (Nat.le_refl _) rfl) rfl
 have E5:aB (E2 (W2 w b1 b2)) h2 hs U:=pH.step r7 aS rfl (bN.step nt (by show 7<=8;lia))
 have KW:aB (E2 (W2 w b1 b2)) h2 ls M:=pL.step r7 aS rfl (bN.step nt (by show 7<=8;lia))
 refine iN (h₀:=h2) (Y:=1) ao (aS.sub [0] (an rfl) (by decide)) ?_
 refine KP (j:=x.j) pb (Nat.le_refl _) fun pz h3 g3 dY bc=>?_
 intro pc pd
 have bl:=aS.join' [0] (by decide) rfl bc rfl
 have r8:=aS.sub [0,1,2,3,4,5,6,7] (an rfl) (by decide)
 have E6:ag (E2 (W2 w b1 b2)) h2 8 _ _ h3:=r8.join' [0] (by decide) rfl bc rfl
 have oF:=(show bN [(l+1109,_),(da+1109,av),(a+1109,ah (da+1109) es ep),(db+1109,av),(b+1109,ah (db+1109) fs fp),(hi+1109,ac hs he),(lo+1109,ac ls le),(j+1110,ac x.xs x.e)] from ⟨KU,f7,by kernel_rfl,f7,by kernel_rfl,bI _ _,bI _ _,bI _ _,trivial⟩)
 have KX:aB (E2 (W2 w b1 b2)) h3 x.xs U:=pX.step r8 E6 rfl (bN.step oF (Nat.le_refl _))
 have Nu:aB (E2 (W2 w b1 b2)) h3 hs U:=E5.step r8 E6 rfl (bN.step oF (Nat.le_refl _))
 have Nv:aB (E2 (W2 w b1 b2)) h3 ls M:=KW.step r8 E6 rfl (bN.step oF (Nat.le_refl _))
 have oX:h3.get? (j+1110)=some (ac x.xs x.e):=bl.own 7 _ _ rfl
 have oH:h3.get? (hi+1109)=some (ac hs he):=bl.own 5 _ _ rfl
 refine CV (nC _ _ _) oX oH KX Nu fun pe=>⟨false,rfl,?_⟩
 clear oX oH KX pX E5 KW E6
 -- meet and low
 have r9:ag (E2 (W2 w b1 b2)) h 7 [(l+1109,_),(da+1109,av),(a+1109,ah (da+1109) es ep),(db+1109,av),(b+1109,ah (db+1109) fs fp),(hi+1109,ac hs he),(lo+1109,ac ls le)] (x.j+1109) h3:=bl.pick [0,1,2,3,4,5,6] 7 (by decide) (by decide) (Nat.le_refl _) rfl
 have u9:=r9.sub [0,1,2,3,4,5,6] (an rfl) (by decide)
 refine ua (.inr rfl) (KT _) ?_
 refine iN (h₀:=h3) (Y:=3) dY (r9.sub [0,3,4] (an rfl) (by decide)) ?_
 refine KO hM nM pe (Nat.le_refl _) fun y _ pz h4 g4 gG cP=>?_
 intro pf
 have pY:aB (E2 (W2 w b1 b2)) h4 y.xs M:=y.hP.heap cP
 have cQ:ag (E2 (W2 w b1 b2)) h3 7 _ _ h4:=u9.join' [0,3,4] (by decide) rfl (cP.pick [0,1,2,4] 3 (by decide) (by decide) (Nat.le_refl _) rfl) rfl
 have Nw:aB (E2 (W2 w b1 b2)) h4 ls M:=Nv.step u9 cQ rfl (bN.step nt (by show 7<=8;lia))
 refine iN (h₀:=h4) (Y:=1) gG (cQ.sub [0] (an rfl) (by decide)) ?_
 refine KQ (j:=y.j) pf (Nat.le_refl _) fun pz h5 g5 fY fw=>?_
 intro pg ph
 have s8:=cQ.sub [0,1,2,3,4,5,6,7] (an rfl) (by decide)
 have E7:ag (E2 (W2 w b1 b2)) h4 8 _ _ h5:=s8.join' [0] (by decide) rfl fw rfl
 have KY:=(show bN [(l+1109,_),(da+1109,av),(a+1109,ah (da+1109) es ep),(db+1109,av),(b+1109,ah (db+1109) fs fp),(hi+1109,ac hs he),(lo+1109,ac ls le),(x.j+1110,ac y.xs y.e)] from ⟨KU,f7,by kernel_rfl,f7,by kernel_rfl,bI _ _,bI _ _,bI _ _,trivial⟩)
 have Nx:aB (E2 (W2 w b1 b2)) h5 y.xs M:=pY.step s8 E7 rfl (bN.step KY (Nat.le_refl _))
 have Ny:aB (E2 (W2 w b1 b2)) h5 ls M:=Nw.step s8 E7 rfl (bN.step KY (Nat.le_refl _))
 have oY:h5.get? (x.j+1110)=some (ac y.xs y.e):=E7.own 7 _ _ rfl
 have oL:h5.get? (lo+1109)=some (ac ls le):=E7.own 6 _ _ rfl
 refine CV (nC _ _ _) oY oL Nx Ny fun pi=>⟨false,rfl,?_⟩
 have rf:=cQ.join' [0] (by decide) rfl fw rfl
 refine nx y.j _ h5 g5 pi fY ?_
 exact r9.join' [0,1,2,3,4,5,6] (by decide) rfl (rf.pick [0,1,2,3,4,5,6] 7 (by decide) (by decide) (Nat.le_refl _) rfl) rfl
end
end
end
section
variable {A0 A1 A2 A3:KV}{b1 b2 pl r:Bool}{d:Drawn}{du e0 ep0 ep1 ep2 ep3 it j kt l me t t0 t1 te tk un up vt:Nat}{es0 es1 es2 es3 us:Array DictEntry}{f2:FN}{k left v x:Int}{p2 p3 p4:Pos}{w:World}
noncomputable abbrev AS:=fun a=>ai a 1107 10
theorem Nz {kf:Nat->Nat}{os:OsState}{q3 q6 q7 q8 q9 q10 aH aK q13 q14:Value}:
  Qv w b1 b2 pl d os fun W pl=>⟨E2 W,1,(eK W l p4),oC (AS W) (ab W l),[(l+1109,bB W pl t me un kf q3 (t9 q6 q7 q8 q9 q10 aH aK q13 q14) e0)],j+1109,tk,.e (.e (.done (.ret (.ref (j+1110)))) [(l+1109,(bB W pl t me un kf q3 (t9 q6 q7 q8 q9 q10 aH aK q13 q14) e0)),(j+1110,⟨(.type "range_iterator"),none,.fields #[(.int 0 0),(.int 7 0),(.int 1 0)],#[]⟩)] (j+1111) (tk+3))⟩:=b7 98 (Hx 0x1322202022202022000000) [] [2] (by kernel_rfl)
theorem NA {kf:Nat->Nat}{os:OsState}{q3 q6 q7 q8 q9 q10 aH aK q13 q14:Value}:
  Qv w b1 b2 pl d os fun W pl=>⟨E2 W,1,⟨(AG (AS W) it W l),none,none,[(fn f2,p2),(CC,p3)],none⟩,ic (cn (AS W)) (.int k kt) [] (ab W l),[(l+1109,bB W pl t me un kf q3 (t9 q6 q7 q8 q9 q10 aH aK q13 q14) e0)],j+1109,tk,.e (.e (.done .next) [(l+1109,bB W pl t me un kf q3 (BE q6 q7 q8 q9 q10 aH aK q13 k kt) e0)] (j+1109) (tk+1))⟩:=b7 68 [1,1] [] [] (by kernel_rfl)
theorem NB {os:OsState}(hl:left<=0):
  Qw w b1 b2 d os fun W=>⟨E2 W,1,⟨(AG (AS W) it W l),none,none,[(fn f2,p2),(CC,p3)],none⟩,den (AG (AS W) it W l),[(it+1109,aY x left 1)],j+1109,tk,.c (lW 0 (it+1109) x left hl) fun x1=>.e (.e (.done .next) [(it+1109,(aY x left 1))] (j+1111) tk)⟩:=bU 69 [1,0,1,1] [[3,0]] [] (by kernel_rfl)
noncomputable abbrev B3:=fun a b c d e f g h=>(⟨(Ag (AS (W2 a b c)) d a b c e),none,none,[(fn f,g),(CC,h)],none⟩:Ctx)
theorem KZ {kf:Nat->Nat}{os:OsState}{t2 t3:Nat}{q3 q6 q7 q8 q9 q10 aH aK q13:Value}(hr:(v != (max (max (max (max 0 (ct A0 k)) (ct A1 k)) (ct A2 k)) (ct A3 k)))=r) (jO:IntKeys us) (hf:findBy Value.isInt us k=some (.int v vt)) (h0:Z es0 A0) (h1:Z es1 A1) (h2:Z es2 A2) (h3:Z es3 A3):
  Qc b1 b2 pl d os fun b1 b2 pl=>⟨Ae w b1 b2,8,(B3 w b1 b2 it l f2 p2 p3),jM (dq (dG (bj (AS (W2 w b1 b2))) 0)) (Ax w b1 b2 l),[(l+1109,AY w b1 b2 pl t me un kf q3 (BE q6 q7 q8 q9 q10 aH aK q13 k kt) e0),Aj du,Ac un du us up,Bc t t0 t1 t2 t3 te,Ar t0 es0 ep0,Ar t1 es1 ep1,Ar t2 es2 ep2,Ar t3 es3 ep3],j+1109,tk,.u (bK 2 (un+1109) (AP du us up) us up rfl jO k (.int v vt) hf)<| .c (no (j+1) (tk+2) t t0 t1 t2 t3 te kt ep0 ep1 ep2 ep3 k es0 es1 es2 es3 h0 h1 h2 h3 [3,4,5,6,7] (by decide) rfl) fun x2=>.c (jk true 10 (j+8) 0 #[.int 0 (tk+1),.int (ct A0 k) x2.t0,.int (ct A1 k) x2.t1,.int (ct A2 k) x2.t2,.int (ct A3 k) x2.t3] #[(0,(tk+1)),(ct A0 k,x2.t0),(ct A1 k,x2.t1),(ct A2 k,x2.t2),(ct A3 k,x2.t3)] (by simp [intItems]) (by simp) (max (max (max (max 0 (ct A0 k)) (ct A1 k)) (ct A2 k)) (ct A3 k)) (Gb _)) fun x3=>.u (DH v (max (max (max (max 0 (ct A0 k)) (ct A1 k)) (ct A2 k)) (ct A3 k)) r hr)<| .e (.e (.done (.ret (.bool r))) [(l+1109,AY w b1 b2 pl t me un kf q3 (BE q6 q7 q8 q9 q10 aH aK q13 k kt) e0),Aj du,Ac un du us up,(t+1109,(Aw t0 t1 t2 t3 te)),Ar t0 es0 ep0,Ar t1 es1 ep1,Ar t2 es2 ep2,Ar t3 es3 ep3] ((x3.j)+1109) ((x3.3)))⟩:=b7 121 (Hx 0x11030000303000311) [[0,0,0,1,1,0,1],[9,10,9,0,9,0,10,9,10,1],[0,1],[]] [] (by kernel_rfl)
theorem K0 {kf:Nat->Nat}{os:OsState}{t2 t3:Nat}{q3 q6 q7 q8 q9 q10 aH aK q13:Value}(hr:(v != max 0 (min (min (min (ct A0 k) (ct A1 k)) (ct A2 k)) (ct A3 k)))=r) (jO:IntKeys us) (hf:findBy Value.isInt us k=some (.int v vt)) (h0:Z es0 A0) (h1:Z es1 A1) (h2:Z es2 A2) (h3:Z es3 A3):
  Qc b1 b2 pl d os fun b1 b2 pl=>⟨Ae w b1 b2,8,(B3 w b1 b2 it l f2 p2 p3),jM (dq (dG (bj (AS (W2 w b1 b2))) 1)) (Ax w b1 b2 l),[(l+1109,AY w b1 b2 pl t me un kf q3 (BE q6 q7 q8 q9 q10 aH aK q13 k kt) e0),Aj du,Ac me du us up,Bc t t0 t1 t2 t3 te,Ar t0 es0 ep0,Ar t1 es1 ep1,Ar t2 es2 ep2,Ar t3 es3 ep3],j+1109,tk,.u (bK 2 (me+1109) (AP du us up) us up rfl jO k (.int v vt) hf)<| .c (no j (tk+2) t t0 t1 t2 t3 te kt ep0 ep1 ep2 ep3 k es0 es1 es2 es3 h0 h1 h2 h3 [3,4,5,6,7] (by decide) rfl) fun x2=>.u (jk false 8 (j+3) 4 #[.int (ct A0 k) x2.t0,.int (ct A1 k) x2.t1,.int (ct A2 k) x2.t2,.int (ct A3 k) x2.t3] #[(ct A0 k,x2.t0),(ct A1 k,x2.t1),(ct A2 k,x2.t2),(ct A3 k,x2.t3)] (by simp [intItems]) (by simp) (min (min (min (ct A0 k) (ct A1 k)) (ct A2 k)) (ct A3 k)) (tM _))<| .c (Cv 0 l (AY w b1 b2 pl t me un kf q3 (BE q6 q7 q8 q9 q10 aH aK q13 k kt) e0) 0 (min (min (min (ct A0 k) (ct A1 k)) (ct A2 k)) (ct A3 k)) (max 0 (min (min (min (ct A0 k) (ct A1 k)) (ct A2 k)) (ct A3 k))) rfl) fun x4=>.u (DH v (max 0 (min (min (min (ct A0 k) (ct A1 k)) (ct A2 k)) (ct A3 k))) r hr)<| .e (.e (.done (.ret (.bool r))) [(l+1109,AY w b1 b2 pl t me un kf q3 (BE q6 q7 q8 q9 q10 aH aK q13 k kt) e0),Aj du,Ac me du us up,(t+1109,(Aw t0 t1 t2 t3 te)),Ar t0 es0 ep0,Ar t1 es1 ep1,Ar t2 es2 ep2,Ar t3 es3 ep3] ((x4.j)+1109) ((x4.3)))⟩:=b7 112 (Hx 0x11030000303000311) [[0,0,0,0,0,1,1,0,1],[1],[1],[0,1],[]] [] (by kernel_rfl)
theorem K1 {kf:Nat->Nat}{os:OsState}{t2 t3:Nat}{q3 q6 q7 q8 q9 q10 aH aK q13:Value}(hr:(0 != (max (max (max (max 0 (ct A0 k)) (ct A1 k)) (ct A2 k)) (ct A3 k)))=r) (jO:IntKeys us) (hf:findBy Value.isInt us k=none) (h0:Z es0 A0) (h1:Z es1 A1) (h2:Z es2 A2) (h3:Z es3 A3):
  Qc b1 b2 pl d os fun b1 b2 pl=>⟨Ae w b1 b2,8,(B3 w b1 b2 it l f2 p2 p3),jM (dq (dG (bj (AS (W2 w b1 b2))) 0)) (Ax w b1 b2 l),[(l+1109,AY w b1 b2 pl t me un kf q3 (BE q6 q7 q8 q9 q10 aH aK q13 k kt) e0),Aj du,Ac un du us up,Bc t t0 t1 t2 t3 te,Ar t0 es0 ep0,Ar t1 es1 ep1,Ar t2 es2 ep2,Ar t3 es3 ep3],j+1109,tk,.u (cD 2 (un+1109) (AP du us up) us up 1093 rfl rfl jO k hf)<| .c (no (j+2) (tk+5) t t0 t1 t2 t3 te kt ep0 ep1 ep2 ep3 k es0 es1 es2 es3 h0 h1 h2 h3 [3,4,5,6,7] (by decide) rfl) fun x2=>.c (jk true 11 (j+9) 0 #[.int 0 (tk+4),.int (ct A0 k) x2.t0,.int (ct A1 k) x2.t1,.int (ct A2 k) x2.t2,.int (ct A3 k) x2.t3] #[(0,(tk+4)),(ct A0 k,x2.t0),(ct A1 k,x2.t1),(ct A2 k,x2.t2),(ct A3 k,x2.t3)] (by simp [intItems]) (by simp) (max (max (max (max 0 (ct A0 k)) (ct A1 k)) (ct A2 k)) (ct A3 k)) (Gb _)) fun x3=>.u (DH 0 (max (max (max (max 0 (ct A0 k)) (ct A1 k)) (ct A2 k)) (ct A3 k)) r hr)<| .e (.e (.done (.ret (.bool r))) [(l+1109,AY w b1 b2 pl t me un kf q3 (BE q6 q7 q8 q9 q10 aH aK q13 k kt) e0),Aj du,Ac un du us up,(t+1109,(Aw t0 t1 t2 t3 te)),Ar t0 es0 ep0,Ar t1 es1 ep1,Ar t2 es2 ep2,Ar t3 es3 ep3] ((x3.j)+1109) ((x3.3)))⟩:=b7 146 (Hx 0x11030000303000311) [(Hx 0x1101100000999900000003),[10,11,10,0,10,0,11,10,11,1],[0,1],[]] [] (by kernel_rfl)
theorem K3 {kf:Nat->Nat}{os:OsState}{t2 t3:Nat}{q3 q6 q7 q8 q9 q10 aH aK q13:Value}(hr:(0 != max 0 (min (min (min (ct A0 k) (ct A1 k)) (ct A2 k)) (ct A3 k)))=r) (jO:IntKeys us) (hf:findBy Value.isInt us k=none) (h0:Z es0 A0) (h1:Z es1 A1) (h2:Z es2 A2) (h3:Z es3 A3):
  Qc b1 b2 pl d os fun b1 b2 pl=>⟨Ae w b1 b2,8,(B3 w b1 b2 it l f2 p2 p3),jM (dq (dG (bj (AS (W2 w b1 b2))) 1)) (Ax w b1 b2 l),[(l+1109,AY w b1 b2 pl t me un kf q3 (BE q6 q7 q8 q9 q10 aH aK q13 k kt) e0),Aj du,Ac me du us up,Bc t t0 t1 t2 t3 te,Ar t0 es0 ep0,Ar t1 es1 ep1,Ar t2 es2 ep2,Ar t3 es3 ep3],j+1109,tk,.u (cD 2 (me+1109) (AP du us up) us up 1093 rfl rfl jO k hf)<| .c (no (j+1) (tk+5) t t0 t1 t2 t3 te kt ep0 ep1 ep2 ep3 k es0 es1 es2 es3 h0 h1 h2 h3 [3,4,5,6,7] (by decide) rfl) fun x2=>.u (jk false 9 (j+4) 4 #[.int (ct A0 k) x2.t0,.int (ct A1 k) x2.t1,.int (ct A2 k) x2.t2,.int (ct A3 k) x2.t3] #[(ct A0 k,x2.t0),(ct A1 k,x2.t1),(ct A2 k,x2.t2),(ct A3 k,x2.t3)] (by simp [intItems]) (by simp) (min (min (min (ct A0 k) (ct A1 k)) (ct A2 k)) (ct A3 k)) (tM _))<| .c (Cv 0 l (AY w b1 b2 pl t me un kf q3 (BE q6 q7 q8 q9 q10 aH aK q13 k kt) e0) 0 (min (min (min (ct A0 k) (ct A1 k)) (ct A2 k)) (ct A3 k)) (max 0 (min (min (min (ct A0 k) (ct A1 k)) (ct A2 k)) (ct A3 k))) rfl) fun x4=>.u (DH 0 (max 0 (min (min (min (ct A0 k) (ct A1 k)) (ct A2 k)) (ct A3 k))) r hr)<| .e (.e (.done (.ret (.bool r))) [(l+1109,AY w b1 b2 pl t me un kf q3 (BE q6 q7 q8 q9 q10 aH aK q13 k kt) e0),Aj du,Ac me du us up,(t+1109,(Aw t0 t1 t2 t3 te)),Ar t0 es0 ep0,Ar t1 es1 ep1,Ar t2 es2 ep2,Ar t3 es3 ep3] ((x4.j)+1109) ((x4.3)))⟩:=b7 137 (Hx 0x11030000303000311) [(Hx 0x110110000000999900000003),[1],[1],[0,1],[]] [] (by kernel_rfl)
end
section
variable {M U:KV}{Q:Flow->Pos->Shared->Prop}{X:Value->Pos->Shared->Prop}{a b k:Int}{g:Array GenState}{h:Heap}{j kt tk:Nat}{ns:Obj}{p p4:Pos}{rest:List Stmt}
section
variable {d:Drawn}{os:OsState}{w:World}{b1 b2:Bool}{t me un l it te du dm up mp:Nat}{us ms:Array DictEntry}{pl:Bool}{T:TG}{f2:FN}{p2 p3:Pos}{h₀:Heap}{Y:Nat}{R:Result->Shared->Prop}
noncomputable abbrev NC (w:World) (it l:Nat):Code:=ax (ai w 1107 10) (it+1109) (ab w l)
noncomputable abbrev v2 (w:World) (it l:Nat) (f2:FN) (p2 p3:Pos):Ctx:=⟨NC w it l,none,none,[(fn f2,p2),(CC,p3)],none⟩
noncomputable abbrev RI (w:World) (i:Nat):Stmt:=dG (bj (ai w 1107 10)) i
noncomputable abbrev CW (l it t te du un dm me:Nat) (T:TG) (ns ito:Obj) (us:Array DictEntry) (up:Nat) (ms:Array DictEntry) (mp:Nat):Mm:=[(l+1109,ns),(it+1109,ito),(t+1109,ac (bM T.t0 T.t1 T.t2 T.t3) te),(T.t0+1109,au T.e0 T.p0),(T.t1+1109,au T.e1 T.p1),(T.t2+1109,au T.e2 T.p2),(T.t3+1109,au T.e3 T.p3),(du+1109,av),(un+1109,ah (du+1109) us up),(dm+1109,av),(me+1109,ah (dm+1109) ms mp)]
theorem CX (w:World):bj (AS w)=[]++[RI w 0,RI w 1]:=by kernel_rfl
theorem E8 (w:World):kI (cn (AS w)):=fun _ _=>by kernel_rfl
theorem E9 (w:World):nw (RI w 0):=by kernel_rfl
theorem Fa (w:World):nw (RI w 1):=by kernel_rfl
theorem Fb (w:World):ki (AS w):=⟨by kernel_rfl,fun _ _=>by kernel_rfl⟩
noncomputable def CY (T:TG) (U M:KV) (k:Int):Prop:=ct U k=max 0 (T.mx k)/\ct M k=max 0 (T.mn k)
theorem ND (T:TG) (k:Int):max (max (max (max 0 (ct T.F0 k)) (ct T.F1 k)) (ct T.F2 k)) (ct T.F3 k)=max 0 (T.mx k):=by
 unfold TG.mx;grind
theorem iO (h:a=b):(a != b)=false:=by subst h;simp
noncomputable abbrev Ay:=fun a b c d e f g (h:TG) i=>([(a+1109,b),Aj c,Ac d c e f,(g+1109,ac (bM h.t0 h.t1 h.t2 h.t3) i),(h.t0+1109,au h.e0 h.p0),(h.t1+1109,au h.e1 h.p1),(h.t2+1109,au h.e2 h.p2),(h.t3+1109,au h.e3 h.p3)]:Mm)
theorem K4 (hU:Z us U) (hk:CY T U M k) {q6 q7 q8 q9 q10 aH aK q13:Value}(aq:LN (W2 w b1 b2) pl t me un (BE q6 q7 q8 q9 q10 aH aK q13 k kt) ns) (aI:Pos) (mQ:Y<=8)
  (fin:∀ j tk p h g,AllBare g->ag (Ae w b1 b2) h₀ Y (Ay l ns du un us up t T te) (j+1109) h->dx (Ae w b1 b2) R (v2 (W2 w b1 b2) it l f2 p2 p3) (.done (.ret (.bool false))) p ⟨h,g,d,tk,os⟩):
  am (Ae w b1 b2) h₀ Y R d os ⟨v2 (W2 w b1 b2) it l f2 p2 p3,aI,[],jM (dq (RI (W2 w b1 b2) 0)) (Ax w b1 b2 l),(Ay l ns du un us up t T te),j+1109,tk⟩:=by
 induction aq with | @i kf q3 e0=>?_
 have e:=hk.1
 rw [<- ND] at e
 unfold ct at e
 rcases hU.get k with ⟨c,vt,z1,z2⟩ | ⟨z1,z2⟩
 ·rw [z1] at e
  exact KZ (iO (show c=_ from e)) hU.keys z2 T.h0 T.h1 T.h2 T.h3 aI mQ fun _ _ x _ p h g hg al=>fin x.j _ p h g hg al
 ·rw [z1] at e
  exact K1 (iO (show (0:Int)=_ from e)) hU.keys z2 T.h0 T.h1 T.h2 T.h3 aI mQ fun _ _ x _ p h g hg al=>fin x.j _ p h g hg al
theorem K5 (hM:Z ms M) (hk:CY T U M k) {q6 q7 q8 q9 q10 aH aK q13:Value}(aq:LN (W2 w b1 b2) pl t me un (BE q6 q7 q8 q9 q10 aH aK q13 k kt) ns) (aI:Pos) (mQ:Y<=8)
  (fin:∀ j tk p h g,AllBare g->ag (Ae w b1 b2) h₀ Y (Ay l ns dm me ms mp t T te) (j+1109) h->dx (Ae w b1 b2) R (v2 (W2 w b1 b2) it l f2 p2 p3) (.done (.ret (.bool false))) p ⟨h,g,d,tk,os⟩):
  am (Ae w b1 b2) h₀ Y R d os ⟨v2 (W2 w b1 b2) it l f2 p2 p3,aI,[],jM (dq (RI (W2 w b1 b2) 1)) (Ax w b1 b2 l),(Ay l ns dm me ms mp t T te),j+1109,tk⟩:=by
 induction aq with | @i kf q3 e0=>?_
 have e:=hk.2
 unfold ct at e
 rcases hM.get k with ⟨c,vt,z1,z2⟩ | ⟨z1,z2⟩
 ·rw [z1] at e
  exact K0 (iO (show c=_ from e)) hM.keys z2 T.h0 T.h1 T.h2 T.h3 aI mQ fun _ _ x _ p h g hg al=>fin x.j _ p h g hg al
 ·rw [z1] at e
  exact K3 (iO (show (0:Int)=_ from e)) hM.keys z2 T.h0 T.h1 T.h2 T.h3 aI mQ fun _ _ x _ p h g hg al=>fin x.j _ p h g hg al
theorem CZ (hU:Z us U) (hM:Z ms M) (C0:∀ k:Nat,k < 7->CY T U M (Int.ofNat k)) {q6 q7 q8 q9 q10 aH aK q13:Value}(hk:Y<=11)
  (fin:∀ q14 ns ito j tk h g,LN (W2 w b1 b2) pl t me un (t9 q6 q7 q8 q9 q10 aH aK q13 q14) ns->AllBare g->ag (Ae w b1 b2) h₀ Y (CW l it t te du un dm me T ns ito us up ms mp) (j+1109) h->R (.ok .next) ⟨h,g,d,tk,os⟩):
  ∀ (r i:Nat),i+r=7->∀ {x left:Int},x=Int.ofNat i->left=Int.ofNat r->∀ {q14:Value}{ns:Obj}{j tk:Nat}{h:Heap}{g:Array GenState}{p:Pos},LN (W2 w b1 b2) pl t me un (t9 q6 q7 q8 q9 q10 aH aK q13 q14) ns->AllBare g->ag (Ae w b1 b2) h₀ Y (CW l it t te du un dm me T ns (aY x left 1) us up ms mp) (j+1109) h->
   wpCode (Bf w b1 b2) (v2 (W2 w b1 b2) it l f2 p2 p3) R p ⟨h,g,d,tk,os⟩:=by
 intro r
 induction r with
 | zero=>
  intro i hi x left hx hl q14 ns j tk h g p aq hg al
  refine aD (E:=(E2 (W2 w b1 b2))) hg al ?_
  refine am.sub [1] rfl (by decide) rfl fun h1 aj=>?_
  refine NB (by rw [hl];decide) p (Nat.le_refl _) fun x _ p2 h2 g2 ao aa=>?_
  exact fin q14 ns _ (j+2) _ h2 g2 aq ao (aj.join' [1] (by decide) rfl aa rfl)
 | succ r ih=>
  intro i hi x left hx hl q14 ns j tk h g p aq hg al
  refine nr (ii:=1) (E8 _) rfl hg al rfl (by rw [hl];exact Int.ofNat_lt.mpr (Nat.succ_pos _)) (fun pa=>d9 (CX _) ?_) p
  have hK:=C0 i (by lia)
  rw [<- hx] at hK
  refine am.sub [0] rfl (by decide) rfl fun h1 aj=>?_
  induction aq with | @i kf q3 e0=>?_
  refine NA pa (Nat.le_refl _) fun pz h2 g2 ao aa=>?_
  have aS:ag (E2 (W2 w b1 b2)) h₀ Y (CW l it t te du un dm me T _ (aY (x+1) (left - 1) 1) us up ms mp) (j+1109) h2:=aj.join' [0] (by decide) rfl aa rfl
  have fv:LN (W2 w b1 b2) pl t me un (t9 q6 q7 q8 q9 q10 aH aK q13 (.int x tk)) _:=LN.i (f:=kf) (q3:=q3) (e0:=e0)
  intro pb
  refine my (E9 _) fun pc=>?_
  refine jN ao aS ?_
  refine am.sub [0,7,8,2,3,4,5,6] rfl (by decide) rfl fun h3 bc=>?_
  refine K4 hU hK fv pc (Nat.le_refl _) fun j3 sn EX h4 g4 gG bl=>?_
  have cP:ag (E2 (W2 w b1 b2)) h₀ Y (CW l it t te du un dm me T _ (aY (x+1) (left - 1) 1) us up ms mp) (j3+1109) h4:=bc.join' [0,7,8,2,3,4,5,6] (by decide) rfl bl rfl
  intro pd
  show wp (Mo (E2 (W2 w b1 b2))) (v2 (W2 w b1 b2) it l f2 p2 p3) (execs [RI (W2 w b1 b2) 1] (ab (W2 w b1 b2) l)) _ _ _ _
  refine my (Fa _) fun pe=>?_
  refine jN gG cP ?_
  refine am.sub [0,9,10,2,3,4,5,6] rfl (by decide) rfl fun h5 cQ=>?_
  refine K5 hM hK fv pe (Nat.le_refl _) fun j4 mR K6 h6 g6 so fw=>?_
  have eY:ag (E2 (W2 w b1 b2)) h₀ Y (CW l it t te du un dm me T _ (aY (x+1) (left - 1) 1) us up ms mp) (j4+1109) h6:=cQ.join' [0,9,10,2,3,4,5,6] (by decide) rfl fw rfl
  intro pf
  refine ih (i+1) (by lia) (by rw [hx];rfl) ?_ fv so eY
  rw [hl];simp only [Int.ofNat_eq_natCast];lia
noncomputable abbrev B9:=fun (a:TG)=>((a.t0+1109,au a.e0 a.p0):Addr×Obj)
noncomputable abbrev BA:=fun (a:TG)=>((a.t1+1109,au a.e1 a.p1):Addr×Obj)
noncomputable abbrev BJ:=fun (a:TG)=>((a.t2+1109,au a.e2 a.p2):Addr×Obj)
noncomputable abbrev BN:=fun (a:TG)=>((a.t3+1109,au a.e3 a.p3):Addr×Obj)
theorem K7 (hU:Z us U) (hM:Z ms M) (C0:∀ k:Nat,k < 7->CY T U M (Int.ofNat k)) {q6 q7 q8 q9 q10 aH aK q13 q14:Value}(hk:Y<=10)
  (aq:LN (W2 w b1 b2) pl t me un (t9 q6 q7 q8 q9 q10 aH aK q13 q14) ns) (hg:AllBare g) (al:ag (Ae w b1 b2) h₀ Y [A6 l ns,(t+1109,Be T te),B9 T,BA T,BJ T,BN T,Aj du,Ac un du us up,Aj dm,Ac me dm ms mp] (j+1109) h)
  (nx:∀ q14 ns j tk h g p,LN (W2 w b1 b2) pl t me un (t9 q6 q7 q8 q9 q10 aH aK q13 q14) ns->AllBare g->ag (Ae w b1 b2) h₀ Y [A6 l ns,(t+1109,Be T te),B9 T,BA T,BJ T,BN T,Aj du,Ac un du us up,Aj dm,Ac me dm ms mp] (j+1109) h->wp (Bf w b1 b2) (By w b1 b2 l p4) (execs rest (Ax w b1 b2 l)) Q X p ⟨h,g,d,tk,os⟩):
  wp (Bf w b1 b2) (By w b1 b2 l p4) (execs (AS (W2 w b1 b2)::rest) (Ax w b1 b2 l)) Q X p ⟨h,g,d,tk,os⟩:=by
 refine jQ (Fb _) hg al fun pa=>?_
 refine am.sub [0] rfl (by decide) rfl fun h1 aj=>?_
 induction aq with | @i kf q3 e0=>?_
 refine Nz pa (Nat.le_refl _) fun pz h2 g2 ao aa=>?_
 intro pb
 have bc:=aj.join' [0] (by decide) rfl aa rfl
 have bl:=bc.sub [0,10,1,2,3,4,5,6,7,8,9] (an rfl) (by decide)
 refine CZ (f2:=(dQ (eW (W2 w b1 b2) 1107),ab (W2 w b1 b2) l)) (it:=j+1) (h₀:=h2) (Y:=11) hU hM C0 (Nat.le_refl _) (fun q14 ns ito j tk h g aq hg cP=>?_) 7 0 rfl rfl rfl (j:=j+2) .i ao bl
 intro pc
 have cQ:=(bc.join' [0,10,1,2,3,4,5,6,7,8,9] (by decide) rfl cP rfl).pick [0,1,2,3,4,5,6,7,8,9] 10 (by decide) (by decide) hk rfl
 exact nx q14 ns j tk h g pc aq hg cQ
end
end
section
variable {B:BG}
noncomputable def pos (B:BG) (k:Int) (i:Nat):Int:=max 0 (ct (B.F i) k)
theorem ub (hB:∀ k,PM (B.F k)) {U:KV}(hU:PU U) (i:Nat) (k:Int):ct (fx B U i) k=max (ct U k) (pos B k i):=by
 show ct ((B.F i).foldl bS U) k=_
 rw [ox (hB i).1.1 hU.ct]
 have:=hU.ct k
 unfold pos;grind
theorem lj (hB:∀ k,PM (B.F k)) {L:KV}(hL:PM L) (i:Nat) (k:Int):ct (dM B L i) k=max 0 (min (ct L k) (ct (B.F i) k)):=qJ hL.1.1 k
theorem C3 (hB:∀ k,PM (B.F k)) (k:Int) (a:Nat):ct (aC B [a]) k=pos B k a:=by
 show ct (fx B [] a) k=_
 rw [ub hB PU.nil,ow];unfold pos;grind
theorem Iz (hB:∀ k,PM (B.F k)) (k:Int) (cs:List Nat) (a:Nat):ct (aC B (cs++[a])) k=max (ct (aC B cs) k) (pos B k a):=by
 show ct ((cs++[a]).foldl (fx B) []) k=_
 rw [List.foldl_append]
 exact ub hB (fg hB cs) a k
theorem su (hB:∀ k,PM (B.F k)) (k:Int) (a b:Nat):ct (aC B [a,b]) k=max (pos B k a) (pos B k b):=by rw [<- C3 hB k a];exact Iz hB k [a] b
theorem C4 (hB:∀ k,PM (B.F k)) (k:Int) (a b c:Nat):ct (aC B [a,b,c]) k=max (max (pos B k a) (pos B k b)) (pos B k c):=by rw [<- su hB k a b];exact Iz hB k [a,b] c
theorem K8 (hB:∀ k,PM (B.F k)) (k:Int) (a b c d:Nat):ct (aC B [a,b,c,d]) k=max (max (max (pos B k a) (pos B k b)) (pos B k c)) (pos B k d):=by rw [<- C4 hB k a b c];exact Iz hB k [a,b,c] d
theorem Fc (hB:∀ k,PM (B.F k)) (k:Int) (a:Nat):ct (aR B [a]) k=pos B k a:=by
 show ct (dM B (B.F a) a) k=_
 rw [lj hB (hB a)];unfold pos;grind
theorem sv (hB:∀ k,PM (B.F k)) (k:Int) (a b:Nat):ct (aR B [a,b]) k=min (pos B k a) (pos B k b):=by
 show ct (dM B (B.F a) b) k=_
 rw [lj hB (hB a)];unfold pos;grind
theorem jR (k:Int) (i:Nat):0<=pos B k i:=Int.le_max_left ..
theorem K9 (m y:Int) (h:0<=m):max 0 (min m y)=min m (max 0 y):=by grind
theorem C5 (hB:∀ k,PM (B.F k)) (k:Int) (a b c:Nat):ct (aR B [a,b,c]) k=min (min (pos B k a) (pos B k b)) (pos B k c):=
 (lj hB (gX hB (hB a) b) c k).trans ((congrArg (fun z=>max 0 (min z (ct (B.F c) k))) (sv hB k a b)).trans (K9 _ _ (Int.le_min.mpr ⟨jR k a,jR k b⟩)))
theorem La (hB:∀ k,PM (B.F k)) (k:Int) (a b c d:Nat):ct (aR B [a,b,c,d]) k=min (min (min (pos B k a) (pos B k b)) (pos B k c)) (pos B k d):=
 (lj hB (gX hB (gX hB (hB a) b) c) d k).trans ((congrArg (fun z=>max 0 (min z (ct (B.F d) k))) (C5 hB k a b c)).trans (K9 _ _ (Int.le_min.mpr ⟨Int.le_min.mpr ⟨jR k a,jR k b⟩,jR k c⟩)))
theorem uc {c n:Nat}{U A:KV}(hA:(A.map (·.1)).Nodup) (k:Int):ct (kX (c+1) n U A) k=if n % 2=1 then ct U k+ct A k else ct U k - ct A k:=by
 show ct (if n % 2=1 then A.foldl dS U else A.foldl dT U) k=_
 split
 ·exact EG hA k
 ·exact EH hA k
theorem qP {n:Nat}{U A:KV}(hA:(A.map (·.1)).Nodup) (k:Int):ct (kX 0 n U A) k=ct A k:=by
 show ct (cj [] A) k=_
 rw [Ci hA]
 rcases jn (F:=A) (k:=k) with ⟨v,h1,h2⟩ | ⟨h1,h2⟩
 ·rw [h1,h2]
 ·rw [h1,h2];rfl
theorem Fd (hB:∀ k,PM (B.F k)) (k:Int):ct (fM B 15) k=ct (aR B [0]) k+ct (aR B [1]) k - ct (aR B [0,1]) k+ct (aR B [2]) k - ct (aR B [0,2]) k - ct (aR B [1,2]) k+ct (aR B [0,1,2]) k+ct (aR B [3]) k - ct (aR B [0,3]) k - ct (aR B [1,3]) k+ct (aR B [0,1,3]) k - ct (aR B [2,3]) k+ct (aR B [0,2,3]) k+ct (aR B [1,2,3]) k - ct (aR B [0,1,2,3]) k:=by
 have n:∀ cs,((aR B cs).map (·.1)).Nodup:=fun cs=>(fy hB cs).1.1
 have s:∀ c,ct (fM B (c+2)) k=if (bu (c+2)).length % 2=1 then ct (fM B (c+1)) k+ct (aR B (bu (c+2))) k else ct (fM B (c+1)) k - ct (aR B (bu (c+2))) k:=fun c=>uc (n _) k
 have s1:ct (fM B 1) k=ct (aR B [0]) k:=qP (n _) k
 have t:∀ c cs,bu (c+2)=cs->ct (fM B (c+2)) k=if cs.length % 2=1 then ct (fM B (c+1)) k+ct (aR B cs) k else ct (fM B (c+1)) k - ct (aR B cs) k:=fun c cs e=>by rw [<- e];exact s c
 have a2:=t 0 [1] (by decide)
 have a3:=t 1 [0,1] (by decide)
 have a4:=t 2 [2] (by decide)
 have a5:=t 3 [0,2] (by decide)
 have a6:=t 4 [1,2] (by decide)
 have a7:=t 5 [0,1,2] (by decide)
 have a8:=t 6 [3] (by decide)
 have a9:=t 7 [0,3] (by decide)
 have C6:=t 8 [1,3] (by decide)
 have C7:=t 9 [0,1,3] (by decide)
 have C8:=t 10 [2,3] (by decide)
 have C9:=t 11 [0,2,3] (by decide)
 have Da:=t 12 [1,2,3] (by decide)
 have Db:=t 13 [0,1,2,3] (by decide)
 simp at a2 a3 a4 a5 a6 a7 a8 a9 C6 C7 C8 C9 Da Db
 rw [Db,Da,C9,C8,C7,C6,a9,a8,a7,a6,a5,a4,a3,a2,s1]
theorem Fe (hB:∀ k,PM (B.F k)) (k:Int):ct (fN B 15) k=ct (aC B [0]) k+ct (aC B [1]) k - ct (aC B [0,1]) k+ct (aC B [2]) k - ct (aC B [0,2]) k - ct (aC B [1,2]) k+ct (aC B [0,1,2]) k+ct (aC B [3]) k - ct (aC B [0,3]) k - ct (aC B [1,3]) k+ct (aC B [0,1,3]) k - ct (aC B [2,3]) k+ct (aC B [0,2,3]) k+ct (aC B [1,2,3]) k - ct (aC B [0,1,2,3]) k:=by
 have n:∀ cs,((aC B cs).map (·.1)).Nodup:=fun cs=>(fg hB cs).1.1
 have s:∀ c,ct (fN B (c+2)) k=if (bu (c+2)).length % 2=1 then ct (fN B (c+1)) k+ct (aC B (bu (c+2))) k else ct (fN B (c+1)) k - ct (aC B (bu (c+2))) k:=fun c=>uc (n _) k
 have s1:ct (fN B 1) k=ct (aC B [0]) k:=qP (n _) k
 have t:∀ c cs,bu (c+2)=cs->ct (fN B (c+2)) k=if cs.length % 2=1 then ct (fN B (c+1)) k+ct (aC B cs) k else ct (fN B (c+1)) k - ct (aC B cs) k:=fun c cs e=>by rw [<- e];exact s c
 have a2:=t 0 [1] (by decide)
 have a3:=t 1 [0,1] (by decide)
 have a4:=t 2 [2] (by decide)
 have a5:=t 3 [0,2] (by decide)
 have a6:=t 4 [1,2] (by decide)
 have a7:=t 5 [0,1,2] (by decide)
 have a8:=t 6 [3] (by decide)
 have a9:=t 7 [0,3] (by decide)
 have C6:=t 8 [1,3] (by decide)
 have C7:=t 9 [0,1,3] (by decide)
 have C8:=t 10 [2,3] (by decide)
 have C9:=t 11 [0,2,3] (by decide)
 have Da:=t 12 [1,2,3] (by decide)
 have Db:=t 13 [0,1,2,3] (by decide)
 simp at a2 a3 a4 a5 a6 a7 a8 a9 C6 C7 C8 C9 Da Db
 rw [Db,Da,C9,C8,C7,C6,a9,a8,a7,a6,a5,a4,a3,a2,s1]
theorem ud (a b:Int):max a b=a+b - min a b:=by grind
theorem Dc (a b d:Int):min (max a b) d=max (min a d) (min b d):=by grind
theorem qQ (a b d:Int):min (min a d) (min b d)=min (min a b) d:=by grind
theorem Gm (a b c:Int):max (max a b) c=a+b+c - min a b - min a c - min b c+min (min a b) c:=by
 rw [ud (max a b) c,Dc,ud (min a c) (min b c),qQ,ud a b]
 generalize min (min a b) c=x
 generalize min a b=y
 generalize min a c=z
 generalize min b c=u
 grind
theorem v3 (a b c d:Int):a+b - min a b+c - min a c - min b c+min (min a b) c+d - min a d - min b d+min (min a b) d - min c d+min (min a c) d+min (min b c) d - min (min (min a b) c) d=max (max (max a b) c) d:=by
 rw [ud (max (max a b) c) d,Dc,Dc,Gm (min a d) (min b d) (min c d),qQ,qQ,qQ,qQ,Gm a b c]
 generalize min (min (min a b) c) d=x
 generalize min (min a b) c=y
 generalize min (min a b) d=z
 generalize min (min a c) d=z1
 generalize min (min b c) d=z2
 generalize min a b=u1
 generalize min a c=u2
 generalize min b c=u3
 generalize min a d=u4
 generalize min b d=u5
 generalize min c d=u6
 grind
theorem ue (a b:Int):min a b=a+b - max a b:=by grind
theorem Dd (a b d:Int):max (min a b) d=min (max a d) (max b d):=by grind
theorem qR (a b d:Int):max (max a d) (max b d)=max (max a b) d:=by grind
theorem Gn (a b c:Int):min (min a b) c=a+b+c - max a b - max a c - max b c+max (max a b) c:=by
 rw [ue (min a b) c,Dd,ue (max a c) (max b c),qR,ue a b]
 generalize max (max a b) c=x
 generalize max a b=y
 generalize max a c=z
 generalize max b c=u
 grind
theorem v4 (a b c d:Int):a+b - max a b+c - max a c - max b c+max (max a b) c+d - max a d - max b d+max (max a b) d - max c d+max (max a c) d+max (max b c) d - max (max (max a b) c) d=min (min (min a b) c) d:=by
 rw [ue (min (min a b) c) d,Dd,Dd,Gn (max a d) (max b d) (max c d),qR,qR,qR,qR,Gn a b c]
 generalize max (max (max a b) c) d=x
 generalize max (max a b) c=y
 generalize max (max a b) d=z
 generalize max (max a c) d=z1
 generalize max (max b c) d=z2
 generalize max a b=u1
 generalize max a c=u2
 generalize max b c=u3
 generalize max a d=u4
 generalize max b d=u5
 generalize max c d=u6
 grind
theorem Lb (hB:∀ k,PM (B.F k)) (k:Int):ct (fM B 15) k=max (max (max (pos B k 0) (pos B k 1)) (pos B k 2)) (pos B k 3):=by
 rw [Fd hB,Fc hB,Fc hB,sv hB,Fc hB,sv hB,sv hB,C5 hB,Fc hB,sv hB,sv hB,C5 hB,sv hB,C5 hB,C5 hB,La hB]
 exact v3 _ _ _ _
theorem Lc (hB:∀ k,PM (B.F k)) (k:Int):ct (fN B 15) k=min (min (min (pos B k 0) (pos B k 1)) (pos B k 2)) (pos B k 3):=by
 rw [Fe hB,C3 hB,C3 hB,su hB,C3 hB,su hB,su hB,C4 hB,C3 hB,su hB,su hB,C4 hB,su hB,C4 hB,C4 hB,K8 hB]
 exact v4 _ _ _ _
theorem De:bu 15=[0,1,2,3]:=by decide
end
section
variable {W:World}{pl:Bool}{t me un:Nat}{ns:Obj}
end
section
variable {w:World}{b1 b2:Bool}{d:Drawn}{os:OsState}
noncomputable def Df (v bb:Bool) (ia ib i5:Nat) (a b da db ep fp cd:Nat) (es fs:Array DictEntry) {A B:KV}(hA:Z es A) (hB:Z fs B) (bD:A≠[]) (r:Bool) (hr:eJ A B=r) (nd:[ia,ib,i5].Nodup):aL (E2 (W2 w b1 b2)) d os:=
 aL.sub (Nat×Nat×Nat) (0,0,0) (EQ a b) (HC bb) [ia,ib,i5] [(a+1109,ah da es ep),(b+1109,ah db fs fp),(975,vC v cd (W2 w b1 b2))] nd rfl
  (fun _=>.ret (.bool r)) (fun x=>[(a+1109,ah da es ep),(b+1109,ah db fs fp),(975,cJ (x.1+1109))]) (fun x=>x.2.1+1109) (fun x=>x.2.2) (fun _=>True) (fun _=>rfl) (by
   subst hr
   intro Γ h g p n tk Q hc ho hg hr K
   refine tK hc ho fun fe pe f1 p1 f2 p2 p3=>?_
   obtain ⟨j,rfl⟩:=dn (i:=0) hr rfl
   refine aD (E:=(E2 (W2 w b1 b2))) hg hr ?_
   cases v with
   | true=>exact kF (cd:=cd) hA hB bD fun md j' aF h' g' hb aJ=>K (md,j',aF) trivial h' g' hb aJ
   | false=>exact jI (cd:=cd) hA hB bD fun md j' aF h' g' hb aJ=>K (md,j',aF) trivial h' g' hb aJ)
noncomputable def Dg (ia ib i5:Nat) (a b da db ep fp cd:Nat) (es fs:Array DictEntry) {A B:KV}(hA:Z es A) (hB:Z fs B) (bD:A≠[]) (r:Bool) (hr:(!eJ A B)=r) (nd:[ia,ib,i5].Nodup):aL (E2 (W2 w b1 b2)) d os:=
 aL.sub (Nat×Nat×Nat) (0,0,0) (.call (.ref 987) ⟨[.ref (a+1109),.ref (b+1109)],[]⟩) [2,1] [ia,ib,i5] [(a+1109,ah da es ep),(b+1109,ah db fs fp),(975,cJ (cd+1109))] nd rfl
  (fun _=>.ret (.bool r)) (fun x=>[(a+1109,ah da es ep),(b+1109,ah db fs fp),(975,cJ (x.1+1109))]) (fun x=>x.2.1+1109) (fun x=>x.2.2) (fun _=>True) (fun _=>rfl) (by
   subst hr
   intro Γ h g p n tk Q aV hc hg hr k
   refine kx aV hc fun f1 f2 p1 p2 p3=>?_
   obtain ⟨j,rfl⟩:=dn (i:=0) hr rfl
   refine aD (E:=E2 (W2 w b1 b2)) hg hr ?_
   exact Eu hA hB bD p (Nat.le_refl _) fun x _ p' h' g' bQ aJ=>k x trivial h' g' bQ aJ)
end
section
variable {A B:KV}{a b cd da db e0 ep fp i it j l me pe po pp t tk tu u1 u2 u3 un:Nat}{b1 b2 pl:Bool}{d:Drawn}{es fs:Array DictEntry}{f2:FN}{p2 p3 p4:Pos}{w:World}{xs:Array Value}
noncomputable abbrev AO:=fun a b=>(⟨(.type "tuple"),none,.seq #[(Aa a),(Aa b),(.bool true)] 0,#[]⟩:Obj)
theorem NE {kf:Nat->Nat}{os:OsState}{q3 q8 q9 q10 aH aK q13 q14:Value}:
  Qv w b1 b2 pl d os fun W pl=>⟨E2 W,1,(eK W l p4),c9 (ca W 11 1) (ab W l),[(l+1109,bB W pl t me un kf q3 (t9 (Aa b) (Aa a) q8 q9 q10 aH aK q13 q14) e0)],j+1109,tk,.e (.e (.done .next) [(l+1109,bB W pl t me un (uf kf 14 tk) q3 (EB (Aa b) (Aa a) q8 q9 q10 aH aK q13 q14 (.ref (j+1112))) (e0+1)),(j+1109,(AO un a)),(j+1110,(AO me b)),(j+1111,(AO b me)),(j+1112,⟨(.type "list"),none,.seq #[(Aa j),(.ref (j+1110)),(.ref (j+1111))] 0,#[]⟩)] (j+1113) (tk+1))⟩:=b7 89 [1,1,1,1,1,1,1,1] [] [1,2,3,4] (by kernel_rfl)
noncomputable abbrev B2:=fun a b=>(⟨(.type "tuple"),none,.seq #[(Aa a),(Aa b),(.bool false)] 0,#[]⟩:Obj)
theorem NF {kf:Nat->Nat}{os:OsState}{q3 q8 q9 q10 aH aK q13 q14:Value}:
  Qv w b1 b2 pl d os fun W pl=>⟨E2 W,2,(eK W l p4),oC (ai W 1107 12) (ab W l),[(l+1109,bB W pl t me un kf q3 (EB (Aa b) (Aa a) q8 q9 q10 aH aK q13 q14 (Aa pp)) e0),(pp+1109,ac #[.ref (u1+1109),.ref (u2+1109),.ref (u3+1109)] 0)],j+1109,tk,.e (.e (.done (.ret (.ref (j+1113)))) [(l+1109,(bB W pl t me un kf q3 (EB (Aa b) (Aa a) q8 q9 q10 aH aK q13 q14 (Aa pp)) e0)),(pp+1109,(ac #[(Aa u1),(Aa u2),(Aa u3)] 0)),(j+1109,(B2 un me)),(j+1110,(B2 b a)),(j+1112,⟨(.type "list"),none,.seq #[(Aa u1),(Aa u2),(Aa u3),(Aa j),(.ref (j+1110))] 0,#[]⟩),(j+1113,⟨(.type "list_iterator"),none,.fields #[(.ref (j+1112)),(.int 0 0)],#[]⟩)] (j+1114) tk)⟩:=b7 102 (Hx 0x170606652502025211111) [] [2,3,5,6] (by kernel_rfl)
noncomputable abbrev AN:=fun a b c=>ai (W2 a b c) 1107 12
theorem NG {kf:Nat->Nat}{os:OsState}{q3 q6 q7 q8 q9 q10 aH aK q13 q14 fH:Value}(hx:xs[i]?=some (Aa tu)) (hA:Z es A) (hB:Z fs B) (bD:A≠[]) (he:eJ A B=true) (hn:(!eJ A B)=false):
  Qc b1 b2 pl d os fun b1 b2 pl=>⟨Ae w b1 b2,9,⟨(Ag (AN w b1 b2) it w b1 b2 l),none,none,[(fn f2,p2),(CC,p3)],none⟩,den (Ag (AN w b1 b2) it w b1 b2 l),[(l+1109,AY w b1 b2 pl t me un kf q3 (EB q6 q7 q8 q9 q10 aH aK q13 q14 fH) e0),(it+1109,Bd po i),AR po xs pe,(tu+1109,⟨.type "tuple",none,.seq #[.ref (a+1109),.ref (b+1109),.bool true] 0,#[]⟩),Aj da,Ac a da es ep,Aj db,Ac b db fs fp,(975,vC true cd (W2 w b1 b2))],j+1109,tk,.u (cX 1 2 (it+1109) (po+1109) i pe xs (Aa tu) hx)<| .c (Df true false 5 7 8 a b (da+1109) (db+1109) ep fp cd es fs hA hB bD true he (by decide)) fun x2=>.c (Dg 5 7 8 a b (da+1109) (db+1109) ep fp x2.1 es fs hA hB bD false hn (by decide)) fun x3=>.e (.e (.again (Ag (AN w b1 b2) it w b1 b2 l)) [(l+1109,AY w b1 b2 pl t me un (uf (uf (uf kf 15 tk) 16 (tk+1)) 17 (tk+2)) q3 (kV q6 q7 q8 q9 q10 aH aK q13 q14 fH (Aa a) (Aa b) (.bool true)) (e0+3)),(it+1109,⟨(.type "list_iterator"),none,.fields #[(Aa po),(.int (↑(i+1)) 0)],#[]⟩),A8 po xs pe,(tu+1109,(AO a b)),Aj da,Ac a da es ep,Aj db,Ac b db fs fp,(975,(AA x3.fst))] ((x3.snd.fst)+1109) ((x3.snd.2)))⟩:=b7 187 [2,0,2,1] [(Hx 0x11000068611111111caa4aa0a0aaa4aa0a0aaa4aa0a0aaa4aa0a0aa0404442),[1,1,1,6,8,6,0,0,0,0,1],[1]] [] (by kernel_rfl)
theorem Ld {kf:Nat->Nat}{os:OsState}{q3 q6 q7 q8 q9 q10 aH aK q13 q14 fH gR gS gT:Value}(hx:xs[i]?=some (Aa tu)) (hA:Z es A) (hB:Z fs B) (bD:A≠[]) (he:eJ A B=true) (hn:(!eJ A B)=false):
  Qc b1 b2 pl d os fun b1 b2 pl=>⟨Ae w b1 b2,9,⟨(Ag (AN w b1 b2) it w b1 b2 l),none,none,[(fn f2,p2),(CC,p3)],none⟩,den (Ag (AN w b1 b2) it w b1 b2 l),[(l+1109,AY w b1 b2 pl t me un kf q3 (kV q6 q7 q8 q9 q10 aH aK q13 q14 fH gR gS gT) e0),(it+1109,Bd po i),AR po xs pe,(tu+1109,⟨.type "tuple",none,.seq #[.ref (a+1109),.ref (b+1109),.bool true] 0,#[]⟩),Aj da,Ac a da es ep,Aj db,Ac b db fs fp,(975,vC false cd (W2 w b1 b2))],j+1109,tk,.u (cX 1 2 (it+1109) (po+1109) i pe xs (Aa tu) hx)<| .c (Df false false 5 7 8 a b (da+1109) (db+1109) ep fp cd es fs hA hB bD true he (by decide)) fun x2=>.c (Dg 5 7 8 a b (da+1109) (db+1109) ep fp x2.1 es fs hA hB bD false hn (by decide)) fun x3=>.e (.e (.again (Ag (AN w b1 b2) it w b1 b2 l)) [(l+1109,AY w b1 b2 pl t me un kf q3 (kV q6 q7 q8 q9 q10 aH aK q13 q14 fH (Aa a) (Aa b) (.bool true)) e0),(it+1109,⟨(.type "list_iterator"),none,.fields #[(Aa po),(.int (↑(i+1)) 0)],#[]⟩),A8 po xs pe,(tu+1109,(AO a b)),Aj da,Ac a da es ep,Aj db,Ac b db fs fp,(975,(AA x3.fst))] ((x3.snd.fst)+1109) ((x3.snd.2)))⟩:=b7 187 [2,0,2,1] [(Hx 0x11000068611111111caa4aa0a0aaa4aa0a0aaa4aa0a0aaa4aa0a0aa0404442),[1,1,1,6,8,6,0,0,0,0,1],[1]] [] (by kernel_rfl)
theorem Le {kf:Nat->Nat}{os:OsState}{q3 q6 q7 q8 q9 q10 aH aK q13 q14 fH gR gS gT:Value}(hx:xs[i]?=some (Aa tu)) (hA:Z es A) (hB:Z fs B) (bD:A≠[]) (he:eJ A B=false) (hn:(!eJ A B)=true):
  Qc b1 b2 pl d os fun b1 b2 pl=>⟨Ae w b1 b2,9,⟨(Ag (AN w b1 b2) it w b1 b2 l),none,none,[(fn f2,p2),(CC,p3)],none⟩,den (Ag (AN w b1 b2) it w b1 b2 l),[(l+1109,AY w b1 b2 pl t me un kf q3 (kV q6 q7 q8 q9 q10 aH aK q13 q14 fH gR gS gT) e0),(it+1109,Bd po i),AR po xs pe,(tu+1109,⟨.type "tuple",none,.seq #[.ref (a+1109),.ref (b+1109),.bool false] 0,#[]⟩),Aj da,Ac a da es ep,Aj db,Ac b db fs fp,(975,vC false cd (W2 w b1 b2))],j+1109,tk,.u (cX 1 2 (it+1109) (po+1109) i pe xs (Aa tu) hx)<| .c (Df false false 5 7 8 a b (da+1109) (db+1109) ep fp cd es fs hA hB bD false he (by decide)) fun x2=>.c (Dg 5 7 8 a b (da+1109) (db+1109) ep fp x2.1 es fs hA hB bD true hn (by decide)) fun x3=>.e (.e (.again (Ag (AN w b1 b2) it w b1 b2 l)) [(l+1109,AY w b1 b2 pl t me un kf q3 (kV q6 q7 q8 q9 q10 aH aK q13 q14 fH (Aa a) (Aa b) (.bool false)) e0),(it+1109,⟨(.type "list_iterator"),none,.fields #[(Aa po),(.int (↑(i+1)) 0)],#[]⟩),A8 po xs pe,(tu+1109,(B2 a b)),Aj da,Ac a da es ep,Aj db,Ac b db fs fp,(975,(AA x3.fst))] ((x3.snd.fst)+1109) ((x3.snd.2)))⟩:=b7 187 [2,0,2,1] [(Hx 0x11000068611111111caa4aa0a0aaa4aa0a0aaa4aa0a0aaa4aa0a0aa0404442),[1,1,1,6,8,6,0,0,0,0,1],[1]] [] (by kernel_rfl)
theorem NH {os:OsState}(hx:xs.size<=i):
  Qw w b1 b2 d os fun W=>⟨E2 W,2,⟨(AG (ai W 1107 12) it W l),none,none,[(fn f2,p2),(CC,p3)],none⟩,den (AG (ai W 1107 12) it W l),[AR po xs pe,(it+1109,Bd po i)],j+1109,tk,.c (fU 1 0 (it+1109) (po+1109) i pe xs hx) fun x1=>.e (.e (.done .next) [(po+1109,(BM xs pe)),(it+1109,(x1))] (j+1111) tk)⟩:=bU 69 [2,0,2,1] [[4,0]] [] (by kernel_rfl)
end
section
variable {d:Drawn}{os:OsState}{w:World}{b1 b2:Bool}{t me un l du dm up mp a da b db ep fp:Nat}{us ms es fs:Array DictEntry}{pl:Bool}{h₀:Heap}{Y:Nat}{U M A B:KV}
theorem Ff (w:World):ki (ai w 1107 12):=⟨by kernel_rfl,fun _ _=>by kernel_rfl⟩
theorem Lf (hU:Z us U) (hM:Z ms M) (hA:Z es A) (hB:Z fs B) (nU:U≠[]) (nM:M≠[]) (nB:B≠[]) (e1:eJ U A=true) (e2:eJ M B=true) (e3:eJ B M=true) (e4:eJ U M=false) (e5:eJ B A=false)
  {rest:List Stmt}{Q:Flow->Pos->Shared->Prop}{X:Value->Pos->Shared->Prop}{p p4:Pos}{j tk:Nat}{q8 q9 q10 aH aK q13 q14:Value}{ns:Obj}{h:Heap}{g:Array GenState}
  (aq:LN (W2 w b1 b2) pl t me un (t9 (Aa b) (Aa a) q8 q9 q10 aH aK q13 q14) ns) (hg:AllBare g) (al:ag (Ae w b1 b2) h₀ Y [A6 l ns,Aj du,Ac un du us up,Aj dm,Ac me dm ms mp,Aj da,Ac a da es ep,Aj db,Ac b db fs fp,(975,BL w b1 b2)] (j+1109) h)
  (nx:∀ cd fH gR gS gT ns j tk h' g p,LN (W2 w b1 b2) pl t me un (kV (Aa b) (Aa a) q8 q9 q10 aH aK q13 q14 fH gR gS gT) ns->AllBare g->ag (Ae w b1 b2) h 10 [A6 l ns,Aj du,Ac un du us up,Aj dm,Ac me dm ms mp,Aj da,Ac a da es ep,Aj db,Ac b db fs fp,(975,Ba cd)] (j+1109) h'->wp (Bf w b1 b2) (By w b1 b2 l p4) (execs rest (Ax w b1 b2 l)) Q X p ⟨h',g,d,tk,os⟩):
  wp (Bf w b1 b2) (By w b1 b2 l p4) (execs (ca (W2 w b1 b2) 11 1++(AN w b1 b2::rest)) (Ax w b1 b2 l)) Q X p ⟨h,g,d,tk,os⟩:=by
 have r0:=al.sub [0,1,2,3,4,5,6,7,8,9] (an rfl) (by decide)
 refine cO (h₀:=h) (Y:=10) hg r0 ?_
 refine am.sub [0] rfl (by decide) rfl fun h1 aj=>?_
 induction aq with | @i kf q3 e0=>?_
 refine NE p (Nat.le_refl _) fun pz h2 g2 ao aa=>?_
 intro pb
 have aS:=aj.join' [0] (by decide) rfl aa rfl
 refine jQ (Ff _) ao aS fun pc=>?_
 refine am.sub [0,13] rfl (by decide) rfl fun h3 bc=>?_
 refine NF (j:=j+4) pc (Nat.le_refl _) fun pz h4 g4 gG bl=>?_
 intro pd
 have cP:=bc.join' [0,13] (by decide) rfl bl rfl
 -- 0 ns,1..8,9 the code,10 11 12 tuples,13 pairs,14 15 tuples,16 list,17 iterator
 have z:=cP.sub [0,17,16,10,11,12,14,15,1,2,3,4,5,6,7,8,9] (an rfl) (by decide)
 let f2:FN:=(dQ (eW (W2 w b1 b2) 1107),ab (W2 w b1 b2) l)
 refine aD (E:=(E2 (W2 w b1 b2))) (h₀:=h4) (Y:=17) gG z ?_
 refine am.sub [0,1,2,3,8,9,12,13,16] rfl (by decide) rfl fun h5 s1=>?_
 refine NG (f2:=f2) (j:=j+9) (cd:=0) rfl hU hA nU e1 (by rw [e1];rfl) pd (Nat.le_refl _) fun x1 _ y1 _ pz h6 g6 so s2=>?_
 have s3:=s1.join' [0,1,2,3,8,9,12,13,16] (by decide) rfl s2 rfl
 refine aD (E:=(E2 (W2 w b1 b2))) so s3 ?_
 refine am.sub [0,1,2,4,10,11,14,15,16] rfl (by decide) rfl fun h7 s4=>?_
 refine Ld (f2:=f2) rfl hM hB nM e2 (by rw [e2];rfl) pz (Nat.le_refl _) fun x2 _ y2 _ NI h8 g8 zG s5=>?_
 have s6:=s4.join' [0,1,2,4,10,11,14,15,16] (by decide) rfl s5 rfl
 refine aD (E:=(E2 (W2 w b1 b2))) zG s6 ?_
 refine am.sub [0,1,2,5,14,15,10,11,16] rfl (by decide) rfl fun h9 s7=>?_
 refine Ld (f2:=f2) rfl hB hM nB e3 (by rw [e3];rfl) NI (Nat.le_refl _) fun x3 _ y3 _ EX OA OB Lg s8=>?_
 have s9:=s7.join' [0,1,2,5,14,15,10,11,16] (by decide) rfl s8 rfl
 refine aD (E:=(E2 (W2 w b1 b2))) Lg s9 ?_
 refine am.sub [0,1,2,6,8,9,10,11,16] rfl (by decide) rfl fun OC NJ=>?_
 refine Le (f2:=f2) rfl hU hM nU e4 (by rw [e4];rfl) EX (Nat.le_refl _) fun x4 _ y4 _ K6 OD OE Lh NK=>?_
 have NM:=NJ.join' [0,1,2,6,8,9,10,11,16] (by decide) rfl NK rfl
 refine aD (E:=(E2 (W2 w b1 b2))) Lh NM ?_
 refine am.sub [0,1,2,7,14,15,12,13,16] rfl (by decide) rfl fun OH NN=>?_
 refine Le (f2:=f2) rfl hB hA nB e5 (by rw [e5];rfl) K6 (Nat.le_refl _) fun x5 _ y5 _ Io OI OJ Li NO=>?_
 have NP:=NN.join' [0,1,2,7,14,15,12,13,16] (by decide) rfl NO rfl
 refine aD (E:=(E2 (W2 w b1 b2))) Li NP ?_
 refine am.sub [2,1] rfl (by decide) rfl fun OK NQ=>?_
 refine NH (f2:=f2) (Nat.le_refl _) Io (Nat.le_refl _) fun x6 _ OL NR NS Lj NT=>?_
 have NU:=NQ.join' [2,1] (by decide) rfl NT rfl
 intro pe
 have rf:=(cP.join' [0,17,16,10,11,12,14,15,1,2,3,4,5,6,7,8,9] (by decide) rfl NU rfl).pick [0,1,2,3,4,5,6,7,8,9] 10 (by decide) (by decide) (Nat.le_refl _) rfl
 refine nx y5.1 (.ref (j+1112)) (.ref (b+1109)) (.ref (a+1109)) (.bool false) _ _ _ NR NS pe ?_ Lj rf
 exact LN.i
end
section
variable {L:KV}{aA ae b be bg cl db e0 ep i it j l m0 tk:Nat}{b1 b2:Bool}{d:Drawn}{es:Array DictEntry}{f2:FN}{p2 p3:Pos}{vs xs:Array Value}{w:World}
theorem Lk {os:OsState}(hx:xs[i]?=some (.ref (b+1109))) (hL:Z es L) (hn:L.length<=1000) (hv:vs.size<=1000):
  Qw w b1 b2 d os fun W=>⟨E2 W,6,⟨(bq (dN (b5 (ai W 1107 13))) (it+1109) (aA+1109) (bo (dN (b5 (ai W 1107 13))) (ab W l) (cl+1109))),none,none,[(fn f2,p2),(CC,p3)],none⟩,den (bq (dN (b5 (ai W 1107 13))) (it+1109) (aA+1109) (bo (dN (b5 (ai W 1107 13))) (ab W l) (cl+1109))),[(bg+1109,ac xs be),(it+1109,ba (bg+1109) i),(aA+1109,ac vs ae),(cl+1109,av),(db+1109,av),(b+1109,ah (db+1109) es ep)],j+1109,tk,.u (cX 1 0 (it+1109) (bg+1109) i be xs (.ref (b+1109)) hx)<| .c (iL true (j+1) 6 5 (j+1109) (b+1109) (ah (db+1109) es ep) es ep rfl hL hn) fun x2=>.u (kJ 2 (aA+1109) ae vs (.ref (j+1110)) hv)<| .e (.a (.again (bq (dN (b5 (ai W 1107 13))) (it+1109) (aA+1109) (bo (dN (b5 (ai W 1107 13))) (ab W l) (cl+1109)))) ((b8 [(bg+1109,(ac xs be)),(it+1109,(ba (bg+1109) (i+1))),(aA+1109,(ac (vs.push (Value.ref (j+1110))) (ae+1))),(cl+1109,au #[ak W dK tk (.ref (b+1109))] 1),(db+1109,(av)),(b+1109,(ah (db+1109) es ep)),(j+1109,⟨(.type "dict_items"),none,.fields #[(.ref (b+1109))],#[]⟩),(j+1110,(ac (iV.xs x2) (x2.e)))] x2.tl)) ((x2.j)+1109) ((x2.6)))⟩:=nX 114 [2,0,2,1] [(Hx 0x1106600605600060006000640044),[0,3,1],[]] [] 114 [2,0,2,1] [(Hx 0x1106600605600060006000640044),[0,3,1],[]] [] (by kernel_rfl)
theorem Dh {os:OsState}{q0:Value}(hx:xs[i]?=some (.ref (b+1109))) (hL:Z es L) (hn:L.length<=1000) (hv:vs.size<=1000):
  Qw w b1 b2 d os fun W=>⟨E2 W,6,⟨(bq (dN (b5 (ai W 1107 13))) (it+1109) (aA+1109) (bo (dN (b5 (ai W 1107 13))) (ab W l) (cl+1109))),none,none,[(fn f2,p2),(CC,p3)],none⟩,den (bq (dN (b5 (ai W 1107 13))) (it+1109) (aA+1109) (bo (dN (b5 (ai W 1107 13))) (ab W l) (cl+1109))),[(bg+1109,ac xs be),(it+1109,ba (bg+1109) i),(aA+1109,ac vs ae),(cl+1109,au #[ak W dK m0 q0] e0),(db+1109,av),(b+1109,ah (db+1109) es ep)],j+1109,tk,.u (cX 1 0 (it+1109) (bg+1109) i be xs (.ref (b+1109)) hx)<| .c (iL true (j+1) 6 5 (j+1109) (b+1109) (ah (db+1109) es ep) es ep rfl hL hn) fun x2=>.u (kJ 2 (aA+1109) ae vs (.ref (j+1110)) hv)<| .e (.a (.again (bq (dN (b5 (ai W 1107 13))) (it+1109) (aA+1109) (bo (dN (b5 (ai W 1107 13))) (ab W l) (cl+1109)))) ((b8 [(bg+1109,(ac xs be)),(it+1109,(ba (bg+1109) (i+1))),(aA+1109,(ac (vs.push (Value.ref (j+1110))) (ae+1))),(cl+1109,au #[ak W dK m0 (.ref (b+1109))] e0),(db+1109,(av)),(b+1109,(ah (db+1109) es ep)),(j+1109,⟨(.type "dict_items"),none,.fields #[(.ref (b+1109))],#[]⟩),(j+1110,(ac (iV.xs x2) (x2.e)))] x2.tl)) ((x2.j)+1109) ((x2.6)))⟩:=nX 114 [2,0,2,1] [(Hx 0x1106600605600060006000640044),[0,3,1],[]] [] 114 [2,0,2,1] [(Hx 0x1106600605600060006000640044),[0,3,1],[]] [] (by kernel_rfl)
theorem Ll {os:OsState}(hx:xs.size<=i):
  Qw w b1 b2 d os fun W=>⟨E2 W,2,⟨(bq (dN (b5 (ai W 1107 13))) (it+1109) (aA+1109) (bo (dN (b5 (ai W 1107 13))) (ab W l) (cl+1109))),none,none,[(fn f2,p2),(CC,p3)],none⟩,den (bq (dN (b5 (ai W 1107 13))) (it+1109) (aA+1109) (bo (dN (b5 (ai W 1107 13))) (ab W l) (cl+1109))),[(bg+1109,ac xs be),(it+1109,ba (bg+1109) i)],j+1109,tk,.c (fU 1 0 (it+1109) (bg+1109) i be xs hx) fun x1=>.e (.e (.done .next) [(bg+1109,(ac xs be)),(it+1109,(x1))] (j+1111) tk)⟩:=bU 68 [2,0,2,1] [[4]] [] (by kernel_rfl)
theorem Lm {os:OsState}(hx:xs[i]?=some (.ref (b+1109))) (hL:Z es L) (hn:L.length<=1000) (hv:vs.size<=1000):
  Qw w b1 b2 d os fun W=>⟨E2 W,5,⟨(bq (bT (b5 (ai W 1107 13))) (it+1109) (aA+1109) (bo (bT (b5 (ai W 1107 13))) (ab W l) (cl+1109))),none,none,[(fn f2,p2),(CC,p3)],none⟩,den (bq (bT (b5 (ai W 1107 13))) (it+1109) (aA+1109) (bo (bT (b5 (ai W 1107 13))) (ab W l) (cl+1109))),[(bg+1109,ac xs be),(it+1109,ba (bg+1109) i),(aA+1109,ac vs ae),(cl+1109,av),(b+1109,au es ep)],j+1109,tk,.u (cX 1 0 (it+1109) (bg+1109) i be xs (.ref (b+1109)) hx)<| .c (iL true (j+1) 5 4 (j+1109) (b+1109) (au es ep) es ep rfl hL hn) fun x2=>.u (kJ 2 (aA+1109) ae vs (.ref (j+1110)) hv)<| .e (.a (.again (bq (bT (b5 (ai W 1107 13))) (it+1109) (aA+1109) (bo (bT (b5 (ai W 1107 13))) (ab W l) (cl+1109)))) ((b8 [(bg+1109,(ac xs be)),(it+1109,(ba (bg+1109) (i+1))),(aA+1109,(ac (vs.push (Value.ref (j+1110))) (ae+1))),(cl+1109,au #[ak W cH tk (.ref (b+1109))] 1),(b+1109,(au es ep)),(j+1109,⟨(.type "dict_items"),none,.fields #[(.ref (b+1109))],#[]⟩),(j+1110,(ac (iV.xs x2) (x2.e)))] x2.tl)) ((x2.j)+1109) ((x2.6)))⟩:=nX 101 [2,0,2,1] [(Hx 0x115050555540044),[0,3,1],[]] [] 101 [2,0,2,1] [(Hx 0x115050555540044),[0,3,1],[]] [] (by kernel_rfl)
theorem Di {os:OsState}{q0:Value}(hx:xs[i]?=some (.ref (b+1109))) (hL:Z es L) (hn:L.length<=1000) (hv:vs.size<=1000):
  Qw w b1 b2 d os fun W=>⟨E2 W,5,⟨(bq (bT (b5 (ai W 1107 13))) (it+1109) (aA+1109) (bo (bT (b5 (ai W 1107 13))) (ab W l) (cl+1109))),none,none,[(fn f2,p2),(CC,p3)],none⟩,den (bq (bT (b5 (ai W 1107 13))) (it+1109) (aA+1109) (bo (bT (b5 (ai W 1107 13))) (ab W l) (cl+1109))),[(bg+1109,ac xs be),(it+1109,ba (bg+1109) i),(aA+1109,ac vs ae),(cl+1109,au #[ak W cH m0 q0] e0),(b+1109,au es ep)],j+1109,tk,.u (cX 1 0 (it+1109) (bg+1109) i be xs (.ref (b+1109)) hx)<| .c (iL true (j+1) 5 4 (j+1109) (b+1109) (au es ep) es ep rfl hL hn) fun x2=>.u (kJ 2 (aA+1109) ae vs (.ref (j+1110)) hv)<| .e (.a (.again (bq (bT (b5 (ai W 1107 13))) (it+1109) (aA+1109) (bo (bT (b5 (ai W 1107 13))) (ab W l) (cl+1109)))) ((b8 [(bg+1109,(ac xs be)),(it+1109,(ba (bg+1109) (i+1))),(aA+1109,(ac (vs.push (Value.ref (j+1110))) (ae+1))),(cl+1109,au #[ak W cH m0 (.ref (b+1109))] e0),(b+1109,(au es ep)),(j+1109,⟨(.type "dict_items"),none,.fields #[(.ref (b+1109))],#[]⟩),(j+1110,(ac (iV.xs x2) (x2.e)))] x2.tl)) ((x2.j)+1109) ((x2.6)))⟩:=nX 101 [2,0,2,1] [(Hx 0x115050555540044),[0,3,1],[]] [] 101 [2,0,2,1] [(Hx 0x115050555540044),[0,3,1],[]] [] (by kernel_rfl)
theorem Ln {os:OsState}(hx:xs.size<=i):
  Qw w b1 b2 d os fun W=>⟨E2 W,2,⟨(bq (bT (b5 (ai W 1107 13))) (it+1109) (aA+1109) (bo (bT (b5 (ai W 1107 13))) (ab W l) (cl+1109))),none,none,[(fn f2,p2),(CC,p3)],none⟩,den (bq (bT (b5 (ai W 1107 13))) (it+1109) (aA+1109) (bo (bT (b5 (ai W 1107 13))) (ab W l) (cl+1109))),[(bg+1109,ac xs be),(it+1109,ba (bg+1109) i)],j+1109,tk,.c (fU 1 0 (it+1109) (bg+1109) i be xs hx) fun x1=>.e (.e (.done .next) [(bg+1109,(ac xs be)),(it+1109,(x1))] (j+1111) tk)⟩:=bU 68 [2,0,2,1] [[4]] [] (by kernel_rfl)
end
section
variable {B:BG}{L:KV}{N a aA be bg cl e i it k l n n' x:Nat}{f2:FN}{h h':Heap}{m m' tl v5 kZ:Mm}{o o':Obj}{p2 p3:Pos}{vs ys:Array Value}
theorem Ol (h:some ((x,o):Addr×Obj)=some (a,o')) (l:x < N):a < N:=by cases h;exact l
noncomputable def dw (tl:Mm) (vs:Array Value) (Ls:List KV):Prop:=vs.size=Ls.length/\∀ (j:Nat) (L:KV),Ls[j]?=some L->∃ a ys e,vs[j]?=some (.ref a)/\(a,ac ys e)∈tl/\fL tl ys L
theorem fL.mono (p:fL tl ys L) (h:∀ x∈tl,x∈v5):fL v5 ys L:=
 ⟨p.1,fun j x e=>let ⟨a,t,u,e1,e2⟩:=p.2 j x e;⟨a,t,u,e1,h _ e2⟩⟩
theorem dw.nil:dw [] #[] []:=⟨rfl,fun j L e=>by simp at e⟩
theorem dw.push {Ls:List KV}(p:dw tl vs Ls) (h:∀ x∈tl,x∈v5) {a:Addr}(ha:(a,BM ys e)∈v5) (hp:fL v5 ys L):dw v5 (vs.push (.ref a)) (Ls++[L]):=by
 refine ⟨by rw [Array.size_push,List.length_append,p.1];rfl,fun j M hx=>?_⟩
 rcases Nat.lt_trichotomy j Ls.length with z | z | z
 ·rw [List.getElem?_append_left z] at hx
  obtain ⟨b,NV,e',e1,e2,e3⟩:=p.2 j M hx
  exact ⟨b,NV,e',by rw [Array.getElem?_push_lt (by rw [p.1];exact z),<- e1,Array.getElem?_eq_getElem],h _ e2,e3.mono h⟩
 ·subst z
  rw [List.getElem?_append_right (Nat.le_refl _),Nat.sub_self] at hx
  cases hx
  exact ⟨a,ys,e,by rw [<- p.1];exact Array.getElem?_push_size,ha,hp⟩
 ·rw [List.getElem?_eq_none (by rw [List.length_append,List.length_singleton];lia)] at hx
  cases hx
noncomputable def Lo (Ls:List KV):Mm:=Ls.flatMap fun L=>(0,ac (iV.df L).xs 0)::(iV.df L).tl
theorem Lp (Ls:List KV):dw (Lo Ls) (Ls.map fun _=>Value.ref 0).toArray Ls:=by
 refine ⟨by simp,fun j L e=>⟨0,(iV.df L).xs,0,by simp [e],?_,?_⟩⟩
 ·exact List.mem_flatMap.mpr ⟨L,List.mem_of_getElem? e,List.mem_cons_self ..⟩
 ·exact (iV.df L).hP.mono fun x hx=>List.mem_flatMap.mpr ⟨L,List.mem_of_getElem? e,List.mem_cons_of_mem _ hx⟩
structure qS (Ls:List KV) where
 vs:Array Value
 ve:Nat
 tl:Mm
 hP:dw tl vs Ls
 m0:Nat
 q0:Value
 e0:Nat
 ito:Obj
 j:Nat
 tk:Nat
noncomputable def qS.df (Ls:List KV):qS Ls:=⟨_,0,_,Lp Ls,0,.none,0,av,0,0⟩
noncomputable def dR (E:En) (h:Heap) (N:Nat) (tl:Mm):Prop:=(tl.map (·.1)).Nodup/\∀ p∈tl,N<=p.1/\h.get? p.1=some p.2/\E.T.get p.1=none
section
variable {E:En}{h₀:Heap}{Y:Nat}
theorem ag.more2 {h:Heap}{n:Nat}:∀ {tl m:Mm},ag E h₀ Y m n h->(tl.map (·.1)).Nodup->(∀ p∈tl,(∀ i o,ad m i≠some (p.1,o))/\h.get? p.1=some p.2/\h₀.objs.size<=p.1/\E.T.get p.1=none)->ag E h₀ Y (b8 m tl) n h
 | [],m,r,_,_=>by rw [fc];exact r
 | x::tl,m,r,hp,hx=>by
  rw [<- ke]
  obtain ⟨h1,h2,h3,h4⟩:=hx x (List.mem_cons_self ..)
  rw [List.map_cons,List.nodup_cons] at hp
  refine ag.more2 (r.know h2 h3 h1 h4) hp.2 fun p Cb=>?_
  obtain ⟨g1,g2,g3,g4⟩:=hx p (List.mem_cons_of_mem _ Cb)
  refine ⟨fun i o q=>?_,g2,g3,g4⟩
  rw [bf] at q
  split at q
  ·have q:=Option.some.inj q
   have q1:x.1=p.1:=congrArg (·.1) q
   exact hp.1 (q1▸List.mem_map_of_mem Cb)
  ·exact g1 i o q
noncomputable def mH (m:Mm):List Nat:=@List.rec (Addr×Obj) (fun _=>List Nat) [] (fun x _ ih=>x.1::ih) m
noncomputable def Go (m:Mm):List Nat:=@List.rec (Addr×Obj) (fun _=>List Nat) [] (fun x _ ih=>x.1::ih) m
noncomputable def qT (m:Mm) (is:List Nat):List Nat:=@List.rec Nat (fun _=>List Nat) [] (fun i _ ih=>@Option.rec (Addr×Obj) (fun _=>List Nat) ih (fun x=>x.1::ih) (ad m i)) is
noncomputable def fE (N:Nat) (m:Mm):Prop:=∀ a∈mH m,a < N
section
variable {N:Nat}
theorem fE.mk:∀ {m:Mm},(∀ i a o,ad m i=some (a,o)->a < N)->fE N m
 | [],_=>fun _ h=>nomatch h
 | x::m,H=>fun a h=>by
  rcases List.mem_cons.mp h with rfl | h
  ·exact H 0 x.1 x.2 rfl
  ·exact fE.mk (fun i=>H (i+1)) a h
theorem Dj:∀ (m:Mm) (i a:Nat) (o:Obj),ad m i=some (a,o)->a∈mH m:=by
 intro m
 induction m with
 | nil=>intro i a o q;exact nomatch (show (none:Option (Addr×Obj))=some (a,o) from q)
 | cons x m ih=>
  intro i a o q
  cases i with
  | zero=>cases (show some x=some (a,o) from q);exact List.mem_cons_self ..
  | succ i=>exact List.mem_cons_of_mem _ (ih i a o q)
theorem fE.get (H:fE N m) (q:ad m i=some (a,o)):a < N:=H a (Dj m i a o q)
theorem fE.to (H:fE N m) (e:mH m'=Go m):fE N m':=fun a h=>H a (show a∈Go m from e▸h)
theorem fE.sel (H:fE N m) (is:List Nat) (e:mH m'=qT m is):fE N m':=by
 have z:∀ is:List Nat,∀ a∈qT m is,a < N:=by
  intro is
  induction is with
  | nil=>exact fun _ h=>nomatch h
  | cons i is ih=>
   intro a h
   have h:a∈@Option.rec (Addr×Obj) (fun _=>List Nat) (qT m is) (fun x=>x.1::qT m is) (ad m i):=h
   generalize q:ad m i=y at h
   cases y with
   | none=>exact ih a h
   | some x=>
    rcases List.mem_cons.mp h with rfl | h
    ·exact H.get (o:=x.2) q
    ·exact ih a h
 exact fun a h=>z is a (e▸h)
theorem fE.at (H:fE N m) (is:List Nat) (q:ad m' i=some (a,o)) (e:mH m'=qT m is):a < N:=(H.sel is e).get q
theorem fE.take (H:fE N (m.take k)) (i a:Nat) (o:Obj) (h:i < k) (q:ad m i=some (a,o)):a < N:=by
 have z:∀ (m:Mm) (k i:Nat),i < k->ad m i=some (a,o)->ad (m.take k) i=some (a,o):=by
  intro m
  induction m with
  | nil=>intro k i _ q;exact nomatch (show (none:Option (Addr×Obj))=some (a,o) from q)
  | cons x m ih=>
   intro k i h q
   cases k with
   | zero=>exact absurd h (Nat.not_lt_zero _)
   | succ k=>
    cases i with
    | zero=>exact q
    | succ i=>exact ih k i (Nat.lt_of_succ_lt_succ h) q
 exact H.get (z m k i h q)
end
theorem dR.turn {x:Addr×Obj}(t:dR E h N tl) (hN:N<=n) (hs:h.objs.size=n) (lowT:∀ a,n<=a->E.T.get a=none) (r:ag E h k (b8 m (x::kZ)) n' h') (hk:k<=aE m) (cv:∀ i a o,i < k->ad m i=some (a,o)->a < N):dR E h' N (tl++(x::kZ)):=by
 have NW:∀ (m:Mm) (i:Nat) y,ad m i=some y->i < aE m:=by
  intro m
  induction m with
  | nil=>intro i y q;cases q
  | cons y m ih=>
   intro i z q
   cases i with
   | zero=>exact Nat.succ_pos _
   | succ i=>exact Nat.succ_lt_succ (ih i z q)
 have yM:∀ (j:Nat) y,ad (x::kZ) j=some y->ad (b8 m (x::kZ)) (aE m+j)=some y:=fun j y q=>by
  rw [dI,if_neg (by lia)]
  have:aE m+j - aE m=j:=by lia
  rw [this];exact q
 have new:∀ p∈x::kZ,h.objs.size<=p.1/\h'.get? p.1=some p.2:=fun p hp=>by
  obtain ⟨j,e⟩:=iK hp
  have e2:=yM j p e
  exact ⟨r.fresh _ p.1 p.2 (by lia) e2,r.own _ p.1 p.2 e2⟩
 have old:∀ p∈tl,p.1 < h.objs.size:=fun p hp=>Heap.lt_size (t.2 p hp).2.1
 have NX:((x::kZ).map (·.1)).Nodup:=by
  have z:∀ (l:Mm),(∀ i j a o o',ad l i=some (a,o)->ad l j=some (a,o')->i=j)->(l.map (·.1)).Nodup:=by
   intro l
   induction l with
   | nil=>intro _;exact List.nodup_nil
   | cons y l ih=>
    intro H
    rw [List.map_cons,List.nodup_cons]
    refine ⟨fun hm=>?_,ih fun i j a o o' q1 q2=>Nat.succ.inj (H (i+1) (j+1) a o o' q1 q2)⟩
    obtain ⟨p,hp,e⟩:=List.mem_map.mp hm
    obtain ⟨j,ej⟩:=iK hp
    have e:p.1=y.1:=e
    have:=H 0 (j+1) y.1 y.2 p.2 rfl (show ad l j=some (y.1,p.2) from e▸ej)
    lia
  refine z _ fun i j a o o' q1 q2=>?_
  have:=r.apart _ _ a o o' (yM i _ q1) (yM j _ q2)
  lia
 refine ⟨?_,fun p hp=>?_⟩
 ·rw [List.map_append,List.nodup_append]
  refine ⟨t.1,NX,fun a ha b hb e=>?_⟩
  obtain ⟨p,hp,rfl⟩:=List.mem_map.mp ha
  obtain ⟨q,hq,rfl⟩:=List.mem_map.mp hb
  have h1:=old p hp
  have h2:=(new q hq).1
  rw [e] at h1
  exact absurd h1 (Nat.not_lt.mpr h2)
 ·rcases List.mem_append.mp hp with hp | hp
  ·obtain ⟨a1,a2,a3⟩:=t.2 p hp
   refine ⟨a1,r.keep p.1 p.2 a2 fun i a o hi hm e=>?_,a3⟩
   have bv:i < aE m:=by lia
   rw [dI,if_pos bv] at hm
   have:=cv i a o hi hm
   rw [e] at this
   exact absurd this (Nat.not_lt.mpr a1)
  ·obtain ⟨a1,a2⟩:=new p hp
   exact ⟨by rw [hs] at a1;exact Nat.le_trans hN a1,a2,lowT p.1 (hs▸a1)⟩
end
section
variable {d:Drawn}{os:OsState}{w:World}{b1 b2:Bool}{h₀:Heap}{Y:Nat}{R:Result->Shared->Prop}
noncomputable def jS (W:World) (z:Str) (m0:Nat) (q0:Value) (e0:Nat):Obj:=au #[ak W z m0 q0] e0
noncomputable abbrev Lq (w:World):Expr:=dN (b5 (ai w 1107 13))
noncomputable abbrev IA (w:World) (l it aA cl:Nat):Code:=bq (Lq w) (it+1109) (aA+1109) (bo (Lq w) (ab w l) (cl+1109))
theorem Dk (h6:∀ k,(B.F k).length<=1000) (hk:Y<=12):
  ∀ (r i:Nat),i+r=4->∀ (tl:Mm) (vs:Array Value) (ae:Nat) (ns:Obj) (j tk:Nat) (h:Heap) (g:Array GenState) (p:Pos),dR (Ae w b1 b2) h N tl->dw tl vs ((List.range i).map B.F)->((i=0/\ns=av)∨(0 < i/\∃ m0 q0 e0,ns=jS (W2 w b1 b2) dK m0 q0 e0))->N<=j+1109->AllBare g->
   fE N ((bg+1109,BM (bM B.b0 B.b1 B.b2 B.b3) be)::(it+1109,Bd bg i)::(aA+1109,BM vs ae)::(cl+1109,ns)::B.m)->
   ag (Ae w b1 b2) h₀ Y ((bg+1109,BM (bM B.b0 B.b1 B.b2 B.b3) be)::(it+1109,Bd bg i)::(aA+1109,BM vs ae)::(cl+1109,ns)::B.m) (j+1109) h->
   (∀ tl vs ae m0 q0 e0 ito j tk h g,dR (Ae w b1 b2) h N tl->dw tl vs ((List.range 4).map B.F)->AllBare g->ag (Ae w b1 b2) h₀ Y ((bg+1109,BM (bM B.b0 B.b1 B.b2 B.b3) be)::(it+1109,ito)::(aA+1109,BM vs ae)::(cl+1109,jS (W2 w b1 b2) dK m0 q0 e0)::B.m) (j+1109) h->R (.ok .next) ⟨h,g,d,tk,os⟩)->
   wpCode (Bf w b1 b2) ⟨IA (W2 w b1 b2) l it aA cl,none,none,[(fn f2,p2),(CC,p3)],none⟩ R p ⟨h,g,d,tk,os⟩:=by
 intro r
 induction r with
 | zero=>
  intro i hi tl vs ae ns j tk h g p hT hL aq hN hg cv al fin
  obtain rfl:i=4:=hi
  have r2:=al.sub [0,1] (an rfl) (by decide)
  refine aD (E:=(E2 (W2 w b1 b2))) (h₀:=h) (Y:=2) hg r2 ?_
  refine Ll (Nat.le_refl _) p (Nat.le_refl _) fun x _ p2 h2 g2 ao aa=>?_
  have sw:dR (E2 (W2 w b1 b2)) h2 N tl:=by
   refine ⟨hT.1,fun p hp=>?_⟩
   obtain ⟨a1,a2,a3⟩:=hT.2 p hp
   refine ⟨a1,aa.keep p.1 p.2 a2 fun i a o hi hm e=>?_,a3⟩
   have:a < N:=cv.at [0,1] hm (by kernel_rfl)
   rw [e] at this
   exact absurd this (Nat.not_lt.mpr a1)
  obtain ⟨m0,q0,e0,rfl⟩:∃ m0 q0 e0,ns=jS (W2 w b1 b2) dK m0 q0 e0:=by
   rcases aq with ⟨z,_⟩ | ⟨_,z⟩
   ·cases z
   ·exact z
  exact fin tl vs ae m0 q0 e0 _ (j+2) _ h2 g2 sw hL ao (al.join' [0,1] (by decide) rfl aa rfl)
 | succ r ih=>
  intro i hi tl vs ae ns j tk h g p hT hL aq hN hg cv al fin
  have hx:(bM B.b0 B.b1 B.b2 B.b3)[i]?=some (.ref (B.b i+1109)):=by
   rcases i with _ | _ | _ | _ | i
   ·rfl
   ·rfl
   ·rfl
   ·rfl
   ·lia
  have hv:vs.size<=1000:=by
   have:=hL.1;rw [List.length_map,List.length_range] at this;lia
  have go:∀ (is:List Nat) (aQ:Obj) (m0:Nat) (q0:Value) (e0:Nat) (j2 tk2:Nat) (x2:iV (B.F i)) (pz:Pos) (h2:Heap) (g2:Array GenState),AllBare g2->dR (E2 (W2 w b1 b2)) h2 N (tl++((j+1110,ac x2.xs x2.e)::x2.tl))->j<=j2->
    ag (E2 (W2 w b1 b2)) h₀ Y ((bg+1109,ac (bM B.b0 B.b1 B.b2 B.b3) be)::(it+1109,ba (bg+1109) (i+1))::(aA+1109,ac (vs.push (.ref (j+1110))) (ae+1))::(cl+1109,jS (W2 w b1 b2) dK m0 q0 e0)::B.m) (j2+1109) h2->
    wpCode (Mo (E2 (W2 w b1 b2))) ⟨IA (W2 w b1 b2) l it aA cl,none,none,[(fn f2,p2),(CC,p3)],none⟩ R pz ⟨h2,g2,d,tk2,os⟩:=by
   intro is aQ m0 q0 e0 j2 tk2 x2 pz h2 g2 ao sw hj aa
   refine ih (i+1) (by lia) _ _ _ _ j2 tk2 h2 g2 pz sw ?_ (.inr ⟨Nat.succ_pos _,m0,q0,e0,rfl⟩) (by lia) ao ?_ aa fin
   ·rw [List.range_succ,List.map_append]
    exact hL.push (fun x hx=>List.mem_append.mpr (.inl hx)) (List.mem_append.mpr (.inr (List.mem_cons_self ..))) (x2.hP.mono fun x hx=>List.mem_append.mpr (.inr (List.mem_cons_of_mem _ hx)))
   ·exact cv.to (by kernel_rfl)
  have tail:∀ {n2:Nat}{h2:Heap}{k:Nat}{m:Mm}{x:Addr×Obj}{kZ:Mm},ag (E2 (W2 w b1 b2)) h k (b8 m (x::kZ)) n2 h2->k<=aE m->(∀ i a o,i < k->ad m i=some (a,o)->a < N)->dR (E2 (W2 w b1 b2)) h2 N (tl++(x::kZ)):=fun r mb h3=>hT.turn hN al.size al.lowT r mb h3
  rcases i with _ | _ | _ | _ | i
  ·obtain ⟨_,rfl⟩:_/\ns=av:=aq.resolve_right fun z=>absurd z.1 (by decide)
   refine aD (E:=(E2 (W2 w b1 b2))) (h₀:=h) (Y:=6) hg (al.sub [0,1,2,3,4,5] (an rfl) (by decide)) ?_
   refine Lk (L:=B.F0) (b:=B.b0) (db:=B.d0) hx B.h0 (h6 0) hv p (Nat.le_refl _) fun x2 _ pz h2 g2 ao aa=>?_
   refine go [] av _ _ _ x2.j _ x2 pz h2 g2 ao (tail (m:=[_,_,_,_,_,_,_]) aa (by show 6<=7;lia) (fE.take (cv.sel [0,1,2,3,4,5] (by kernel_rfl)))) ?_ (al.join' [0,1,2,3,4,5] (by decide) rfl (aa.pick [0,1,2,3,4,5] 6 (by decide) (by decide) (Nat.le_refl _) rfl) rfl)
   ·have:=aa.start
    rw [al.size] at this
    lia
  ·obtain ⟨_,m0,q0,e0,rfl⟩:=aq.resolve_left fun z=>absurd z.1 (by decide)
   refine aD (E:=(E2 (W2 w b1 b2))) (h₀:=h) (Y:=6) hg (al.sub [0,1,2,3,6,7] (an rfl) (by decide)) ?_
   refine Dh (L:=B.F1) (b:=B.b1) (db:=B.d1) hx B.h1 (h6 1) hv p (Nat.le_refl _) fun x2 _ pz h2 g2 ao aa=>?_
   refine go [] av _ _ _ x2.j _ x2 pz h2 g2 ao (tail (m:=[_,_,_,_,_,_,_]) aa (by show 6<=7;lia) (fE.take (cv.sel [0,1,2,3,6,7] (by kernel_rfl)))) ?_ (al.join' [0,1,2,3,6,7] (by decide) rfl (aa.pick [0,1,2,3,4,5] 6 (by decide) (by decide) (Nat.le_refl _) rfl) rfl)
   ·have:=aa.start
    rw [al.size] at this
    lia
  ·obtain ⟨_,m0,q0,e0,rfl⟩:=aq.resolve_left fun z=>absurd z.1 (by decide)
   refine aD (E:=(E2 (W2 w b1 b2))) (h₀:=h) (Y:=6) hg (al.sub [0,1,2,3,8,9] (an rfl) (by decide)) ?_
   refine Dh (L:=B.F2) (b:=B.b2) (db:=B.d2) hx B.h2 (h6 2) hv p (Nat.le_refl _) fun x2 _ pz h2 g2 ao aa=>?_
   refine go [] av _ _ _ x2.j _ x2 pz h2 g2 ao (tail (m:=[_,_,_,_,_,_,_]) aa (by show 6<=7;lia) (fE.take (cv.sel [0,1,2,3,8,9] (by kernel_rfl)))) ?_ (al.join' [0,1,2,3,8,9] (by decide) rfl (aa.pick [0,1,2,3,4,5] 6 (by decide) (by decide) (Nat.le_refl _) rfl) rfl)
   ·have:=aa.start
    rw [al.size] at this
    lia
  ·obtain ⟨_,m0,q0,e0,rfl⟩:=aq.resolve_left fun z=>absurd z.1 (by decide)
   refine aD (E:=(E2 (W2 w b1 b2))) (h₀:=h) (Y:=6) hg (al.sub [0,1,2,3,10,11] (an rfl) (by decide)) ?_
   refine Dh (L:=B.F3) (b:=B.b3) (db:=B.d3) hx B.h3 (h6 3) hv p (Nat.le_refl _) fun x2 _ pz h2 g2 ao aa=>?_
   refine go [] av _ _ _ x2.j _ x2 pz h2 g2 ao (tail (m:=[_,_,_,_,_,_,_]) aa (by show 6<=7;lia) (fE.take (cv.sel [0,1,2,3,10,11] (by kernel_rfl)))) ?_ (al.join' [0,1,2,3,10,11] (by decide) rfl (aa.pick [0,1,2,3,4,5] 6 (by decide) (by decide) (Nat.le_refl _) rfl) rfl)
   ·have:=aa.start
    rw [al.size] at this
    lia
  ·lia
noncomputable def NY (b:Bool) (l bg it aA cl be:Nat) (B:BG) (h6:∀ k,(B.F k).length<=1000) (is:List Nat) (nd:is.Nodup) (hl:12=is.length):aL (Ae w b1 b2) d os where
 X:=qS ((List.range 4).map B.F)
 x0:=qS.df _
 L:=_
 look q:=(q.code,is.map (ad q.m),eb q.Γ)
 v:=(IA (W2 w b1 b2) l it aA cl,((bg+1109,Bq B be)::(it+1109,ba (bg+1109) 0)::(aA+1109,ac #[] 0)::(cl+1109,av)::B.m).map some,(none,none,none,[1],some CC))
 ans x q:=⟨.pure (.done .next),q.p,b8 (cW q.m is ((bg+1109,Bq B be)::(it+1109,x.ito)::(aA+1109,BM x.vs x.ve)::(cl+1109,jS (W2 w b1 b2) dK x.m0 x.q0 x.e0)::B.m)) (EE b x.tl),x.j+1109,x.tk,[]⟩
 says _:=True
 holds:=by
  intro h₀ Y hs q Q h g e hc hg hr kk
  obtain ⟨e1,e⟩:=Prod.ext_iff.mp e
  obtain ⟨e2,e3⟩:=Prod.ext_iff.mp e
  dsimp only at e1 e2 e3
  have es:=eA e2
  have fA:aE (sel q.m is)=is.length:=by rw [es];exact hl
  have dD:=hr.sub is (an fA) nd
  rw [es] at dD
  refine sO (hc.trans e1) e3 fun f0 p0 p4=>?_
  obtain ⟨j,hj⟩:=dn (i:=0) dD rfl
  rw [hj] at dD
  refine Dk (N:=q.n) h6 (hl▸Nat.le_refl _) 4 0 rfl [] #[] 0 av j q.tk h g q.p ⟨List.nodup_nil,fun _ h=>nomatch h⟩ dw.nil (.inl ⟨rfl,rfl⟩) (by rw [hj];exact Nat.le_refl _) hg (.mk fun i a o z=>by have:=dD.lt z;rw [hj];exact this) dD fun tl vs ae m0 q0 e0 ito j tk h' g' hT hL bQ al=>?_
  have rj:=hr.join' is nd fA al (by rw [es,<- hl];rfl)
  refine kk ⟨vs,ae,tl,hL,m0,q0,e0,ito,j,tk⟩ trivial h' g' bQ ?_
  cases b with
  | false=>
   show ag (E2 (W2 w b1 b2)) h₀ Y (b8 _ []) _ _
   rw [fc]
   exact rj
  | true=>
   refine rj.more2 hT.1 fun p hp=>?_
   obtain ⟨a1,a2,a3⟩:=hT.2 p hp
   refine ⟨fun i o z=>?_,a2,Nat.le_trans hr.start a1,a3⟩
   have gl:ad (cW q.m is ((bg+1109,ac (bM B.b0 B.b1 B.b2 B.b3) be)::(it+1109,ito)::(aA+1109,ac vs ae)::(cl+1109,jS (W2 w b1 b2) dK m0 q0 e0)::B.m)) i=some (p.1,o):=z
   have dl:lN ((bg+1109,ac (bM B.b0 B.b1 B.b2 B.b3) be)::(it+1109,ito)::(aA+1109,ac vs ae)::(cl+1109,jS (W2 w b1 b2) dK m0 q0 e0)::B.m) is.length=[]:=by rw [<- hl];rfl
   unfold cW at gl
   rw [dl,fc,fT] at gl
   cases w:ad q.m i with
   | none=>rw [w] at gl;cases gl
   | some y=>
    rw [w] at gl
    have:y.1=p.1:=congrArg (·.1) (Option.some.inj gl)
    have lt:=hr.lt (i:=i) (a:=y.1) (o:=y.2) w
    rw [this] at lt
    exact absurd lt (Nat.not_lt.mpr a1)
noncomputable abbrev Lr (w:World):Expr:=bT (b5 (ai w 1107 13))
noncomputable abbrev IB (w:World) (l it aA cl:Nat):Code:=bq (Lr w) (it+1109) (aA+1109) (bo (Lr w) (ab w l) (cl+1109))
theorem Dl {B:TG}(h6:∀ k,(B.F k).length<=1000) (hk:Y<=8):
  ∀ (r i:Nat),i+r=4->∀ (tl:Mm) (vs:Array Value) (ae:Nat) (ns:Obj) (j tk:Nat) (h:Heap) (g:Array GenState) (p:Pos),dR (Ae w b1 b2) h N tl->dw tl vs ((List.range i).map B.F)->((i=0/\ns=av)∨(0 < i/\∃ m0 q0 e0,ns=jS (W2 w b1 b2) cH m0 q0 e0))->N<=j+1109->AllBare g->
   fE N ((bg+1109,BM (bM B.t0 B.t1 B.t2 B.t3) be)::(it+1109,Bd bg i)::(aA+1109,BM vs ae)::(cl+1109,ns)::B.m)->
   ag (Ae w b1 b2) h₀ Y ((bg+1109,BM (bM B.t0 B.t1 B.t2 B.t3) be)::(it+1109,Bd bg i)::(aA+1109,BM vs ae)::(cl+1109,ns)::B.m) (j+1109) h->
   (∀ tl vs ae m0 q0 e0 ito j tk h g,dR (Ae w b1 b2) h N tl->dw tl vs ((List.range 4).map B.F)->AllBare g->ag (Ae w b1 b2) h₀ Y ((bg+1109,BM (bM B.t0 B.t1 B.t2 B.t3) be)::(it+1109,ito)::(aA+1109,BM vs ae)::(cl+1109,jS (W2 w b1 b2) cH m0 q0 e0)::B.m) (j+1109) h->R (.ok .next) ⟨h,g,d,tk,os⟩)->
   wpCode (Bf w b1 b2) ⟨IB (W2 w b1 b2) l it aA cl,none,none,[(fn f2,p2),(CC,p3)],none⟩ R p ⟨h,g,d,tk,os⟩:=by
 intro r
 induction r with
 | zero=>
  intro i hi tl vs ae ns j tk h g p hT hL aq hN hg cv al fin
  obtain rfl:i=4:=hi
  have r2:=al.sub [0,1] (an rfl) (by decide)
  refine aD (E:=(E2 (W2 w b1 b2))) (h₀:=h) (Y:=2) hg r2 ?_
  refine Ln (Nat.le_refl _) p (Nat.le_refl _) fun x _ p2 h2 g2 ao aa=>?_
  have sw:dR (E2 (W2 w b1 b2)) h2 N tl:=by
   refine ⟨hT.1,fun p hp=>?_⟩
   obtain ⟨a1,a2,a3⟩:=hT.2 p hp
   refine ⟨a1,aa.keep p.1 p.2 a2 fun i a o hi hm e=>?_,a3⟩
   have:a < N:=cv.at [0,1] hm (by kernel_rfl)
   rw [e] at this
   exact absurd this (Nat.not_lt.mpr a1)
  obtain ⟨m0,q0,e0,rfl⟩:∃ m0 q0 e0,ns=jS (W2 w b1 b2) cH m0 q0 e0:=by
   rcases aq with ⟨z,_⟩ | ⟨_,z⟩
   ·cases z
   ·exact z
  exact fin tl vs ae m0 q0 e0 _ (j+2) _ h2 g2 sw hL ao (al.join' [0,1] (by decide) rfl aa rfl)
 | succ r ih=>
  intro i hi tl vs ae ns j tk h g p hT hL aq hN hg cv al fin
  have hx:(bM B.t0 B.t1 B.t2 B.t3)[i]?=some (.ref (B.t i+1109)):=by
   rcases i with _ | _ | _ | _ | i
   ·rfl
   ·rfl
   ·rfl
   ·rfl
   ·lia
  have hv:vs.size<=1000:=by
   have:=hL.1;rw [List.length_map,List.length_range] at this;lia
  have go:∀ (is:List Nat) (aQ:Obj) (m0:Nat) (q0:Value) (e0:Nat) (j2 tk2:Nat) (x2:iV (B.F i)) (pz:Pos) (h2:Heap) (g2:Array GenState),AllBare g2->dR (E2 (W2 w b1 b2)) h2 N (tl++((j+1110,ac x2.xs x2.e)::x2.tl))->j<=j2->
    ag (E2 (W2 w b1 b2)) h₀ Y ((bg+1109,ac (bM B.t0 B.t1 B.t2 B.t3) be)::(it+1109,ba (bg+1109) (i+1))::(aA+1109,ac (vs.push (.ref (j+1110))) (ae+1))::(cl+1109,jS (W2 w b1 b2) cH m0 q0 e0)::B.m) (j2+1109) h2->
    wpCode (Mo (E2 (W2 w b1 b2))) ⟨IB (W2 w b1 b2) l it aA cl,none,none,[(fn f2,p2),(CC,p3)],none⟩ R pz ⟨h2,g2,d,tk2,os⟩:=by
   intro is aQ m0 q0 e0 j2 tk2 x2 pz h2 g2 ao sw hj aa
   refine ih (i+1) (by lia) _ _ _ _ j2 tk2 h2 g2 pz sw ?_ (.inr ⟨Nat.succ_pos _,m0,q0,e0,rfl⟩) (by lia) ao ?_ aa fin
   ·rw [List.range_succ,List.map_append]
    exact hL.push (fun x hx=>List.mem_append.mpr (.inl hx)) (List.mem_append.mpr (.inr (List.mem_cons_self ..))) (x2.hP.mono fun x hx=>List.mem_append.mpr (.inr (List.mem_cons_of_mem _ hx)))
   ·exact cv.to (by kernel_rfl)
  have tail:∀ {n2:Nat}{h2:Heap}{k:Nat}{m:Mm}{x:Addr×Obj}{kZ:Mm},ag (E2 (W2 w b1 b2)) h k (b8 m (x::kZ)) n2 h2->k<=aE m->(∀ i a o,i < k->ad m i=some (a,o)->a < N)->dR (E2 (W2 w b1 b2)) h2 N (tl++(x::kZ)):=fun r mb h3=>hT.turn hN al.size al.lowT r mb h3
  rcases i with _ | _ | _ | _ | i
  ·obtain ⟨_,rfl⟩:_/\ns=av:=aq.resolve_right fun z=>absurd z.1 (by decide)
   refine aD (E:=(E2 (W2 w b1 b2))) (h₀:=h) (Y:=5) hg (al.sub [0,1,2,3,4] (an rfl) (by decide)) ?_
   refine Lm (L:=B.F0) (b:=B.t0) hx B.h0 (h6 0) hv p (Nat.le_refl _) fun x2 _ pz h2 g2 ao aa=>?_
   refine go [] av _ _ _ x2.j _ x2 pz h2 g2 ao (tail (m:=[_,_,_,_,_,_]) aa (by show 5<=6;lia) (fE.take (cv.sel [0,1,2,3,4] (by kernel_rfl)))) ?_ (al.join' [0,1,2,3,4] (by decide) rfl (aa.pick [0,1,2,3,4] 5 (by decide) (by decide) (Nat.le_refl _) rfl) rfl)
   ·have:=aa.start
    rw [al.size] at this
    lia
  ·obtain ⟨_,m0,q0,e0,rfl⟩:=aq.resolve_left fun z=>absurd z.1 (by decide)
   refine aD (E:=(E2 (W2 w b1 b2))) (h₀:=h) (Y:=5) hg (al.sub [0,1,2,3,5] (an rfl) (by decide)) ?_
   refine Di (L:=B.F1) (b:=B.t1) hx B.h1 (h6 1) hv p (Nat.le_refl _) fun x2 _ pz h2 g2 ao aa=>?_
   refine go [] av _ _ _ x2.j _ x2 pz h2 g2 ao (tail (m:=[_,_,_,_,_,_]) aa (by show 5<=6;lia) (fE.take (cv.sel [0,1,2,3,5] (by kernel_rfl)))) ?_ (al.join' [0,1,2,3,5] (by decide) rfl (aa.pick [0,1,2,3,4] 5 (by decide) (by decide) (Nat.le_refl _) rfl) rfl)
   ·have:=aa.start
    rw [al.size] at this
    lia
  ·obtain ⟨_,m0,q0,e0,rfl⟩:=aq.resolve_left fun z=>absurd z.1 (by decide)
   refine aD (E:=(E2 (W2 w b1 b2))) (h₀:=h) (Y:=5) hg (al.sub [0,1,2,3,6] (an rfl) (by decide)) ?_
   refine Di (L:=B.F2) (b:=B.t2) hx B.h2 (h6 2) hv p (Nat.le_refl _) fun x2 _ pz h2 g2 ao aa=>?_
   refine go [] av _ _ _ x2.j _ x2 pz h2 g2 ao (tail (m:=[_,_,_,_,_,_]) aa (by show 5<=6;lia) (fE.take (cv.sel [0,1,2,3,6] (by kernel_rfl)))) ?_ (al.join' [0,1,2,3,6] (by decide) rfl (aa.pick [0,1,2,3,4] 5 (by decide) (by decide) (Nat.le_refl _) rfl) rfl)
   ·have:=aa.start
    rw [al.size] at this
    lia
  ·obtain ⟨_,m0,q0,e0,rfl⟩:=aq.resolve_left fun z=>absurd z.1 (by decide)
   refine aD (E:=(E2 (W2 w b1 b2))) (h₀:=h) (Y:=5) hg (al.sub [0,1,2,3,7] (an rfl) (by decide)) ?_
   refine Di (L:=B.F3) (b:=B.t3) hx B.h3 (h6 3) hv p (Nat.le_refl _) fun x2 _ pz h2 g2 ao aa=>?_
   refine go [] av _ _ _ x2.j _ x2 pz h2 g2 ao (tail (m:=[_,_,_,_,_,_]) aa (by show 5<=6;lia) (fE.take (cv.sel [0,1,2,3,7] (by kernel_rfl)))) ?_ (al.join' [0,1,2,3,7] (by decide) rfl (aa.pick [0,1,2,3,4] 5 (by decide) (by decide) (Nat.le_refl _) rfl) rfl)
   ·have:=aa.start
    rw [al.size] at this
    lia
  ·lia
noncomputable def NZ (b:Bool) (l bg it aA cl be:Nat) (B:TG) (h6:∀ k,(B.F k).length<=1000) (is:List Nat) (nd:is.Nodup) (hl:8=is.length):aL (Ae w b1 b2) d os where
 X:=qS ((List.range 4).map B.F)
 x0:=qS.df _
 L:=_
 look q:=(q.code,is.map (ad q.m),eb q.Γ)
 v:=(IB (W2 w b1 b2) l it aA cl,((bg+1109,BM (bM B.t0 B.t1 B.t2 B.t3) be)::(it+1109,ba (bg+1109) 0)::(aA+1109,ac #[] 0)::(cl+1109,av)::B.m).map some,(none,none,none,[1],some CC))
 ans x q:=⟨.pure (.done .next),q.p,b8 (cW q.m is ((bg+1109,BM (bM B.t0 B.t1 B.t2 B.t3) be)::(it+1109,x.ito)::(aA+1109,BM x.vs x.ve)::(cl+1109,jS (W2 w b1 b2) cH x.m0 x.q0 x.e0)::B.m)) (EE b x.tl),x.j+1109,x.tk,[]⟩
 says _:=True
 holds:=by
  intro h₀ Y hs q Q h g e hc hg hr kk
  obtain ⟨e1,e⟩:=Prod.ext_iff.mp e
  obtain ⟨e2,e3⟩:=Prod.ext_iff.mp e
  dsimp only at e1 e2 e3
  have es:=eA e2
  have fA:aE (sel q.m is)=is.length:=by rw [es];exact hl
  have dD:=hr.sub is (an fA) nd
  rw [es] at dD
  refine sO (hc.trans e1) e3 fun f0 p0 p4=>?_
  obtain ⟨j,hj⟩:=dn (i:=0) dD rfl
  rw [hj] at dD
  refine Dl (N:=q.n) h6 (hl▸Nat.le_refl _) 4 0 rfl [] #[] 0 av j q.tk h g q.p ⟨List.nodup_nil,fun _ h=>nomatch h⟩ dw.nil (.inl ⟨rfl,rfl⟩) (by rw [hj];exact Nat.le_refl _) hg (.mk fun i a o z=>by have:=dD.lt z;rw [hj];exact this) dD fun tl vs ae m0 q0 e0 ito j tk h' g' hT hL bQ al=>?_
  have rj:=hr.join' is nd fA al (by rw [es,<- hl];rfl)
  refine kk ⟨vs,ae,tl,hL,m0,q0,e0,ito,j,tk⟩ trivial h' g' bQ ?_
  cases b with
  | false=>
   show ag (E2 (W2 w b1 b2)) h₀ Y (b8 _ []) _ _
   rw [fc]
   exact rj
  | true=>
   refine rj.more2 hT.1 fun p hp=>?_
   obtain ⟨a1,a2,a3⟩:=hT.2 p hp
   refine ⟨fun i o z=>?_,a2,Nat.le_trans hr.start a1,a3⟩
   have gl:ad (cW q.m is ((bg+1109,ac (bM B.t0 B.t1 B.t2 B.t3) be)::(it+1109,ito)::(aA+1109,ac vs ae)::(cl+1109,jS (W2 w b1 b2) cH m0 q0 e0)::B.m)) i=some (p.1,o):=z
   have dl:lN ((bg+1109,ac (bM B.t0 B.t1 B.t2 B.t3) be)::(it+1109,ito)::(aA+1109,ac vs ae)::(cl+1109,jS (W2 w b1 b2) cH m0 q0 e0)::B.m) is.length=[]:=by rw [<- hl];rfl
   unfold cW at gl
   rw [dl,fc,fT] at gl
   cases w:ad q.m i with
   | none=>rw [w] at gl;cases gl
   | some y=>
    rw [w] at gl
    have:y.1=p.1:=congrArg (·.1) (Option.some.inj gl)
    have lt:=hr.lt (i:=i) (a:=y.1) (o:=y.2) w
    rw [this] at lt
    exact absurd lt (Nat.not_lt.mpr a1)
end
end
section
variable {B:BG}{T:TG}{b1 b2 pl:Bool}{be bg e0 j l me t te tk un:Nat}{d:Drawn}{p4:Pos}{w:World}
noncomputable abbrev Bp:=fun a b c=>ai (W2 a b c) 1107 13
noncomputable abbrev BF:=fun a b c d e f=>((a+1109,⟨(.type "list"),none,.seq #[(.ref ((b)+1109)),(.ref ((c)+1109)),(.ref ((d)+1109)),(.ref ((e)+1109))] f,#[]⟩):Addr×Obj)
theorem Lt {kf:Nat->Nat}{os:OsState}{q3 q6 q7 q8 q9 q10 aH aK q13 q14 fH gR gS gT:Value}(h6:∀ k,(B.F k).length<=1000):
  Qc b1 b2 pl d os fun b1 b2 pl=>⟨Ae w b1 b2,11,(By w b1 b2 l p4),oy (dN (b5 (Bp w b1 b2))) (Ax w b1 b2 l),[(l+1109,AY w b1 b2 pl t me un kf q3 (kV q6 q7 q8 q9 q10 aH aK q13 q14 fH gR gS gT) e0),(l+1110,eu (some (Aa bg))),Bc bg B.b0 B.b1 B.b2 B.b3 be,Aj B.d0,Ac B.b0 B.d0 B.e0 B.p0,Aj B.d1,Ac B.b1 B.d1 B.e1 B.p1,Aj B.d2,Ac B.b2 B.d2 B.e2 B.p2,Aj B.d3,Ac B.b3 B.d3 B.e3 B.p3],j+1109,tk,.c (NY true l bg j (j+1) (j+2) be B h6 [2,11,12,13,3,4,5,6,7,8,9,10] (by decide) rfl) fun x1=>.e (.a (.done (.ret (.ref (j+1110)))) ((b8 [(l+1109,AY w b1 b2 pl t me un kf q3 (kV q6 q7 q8 q9 q10 aH aK q13 q14 fH gR gS gT) e0),(l+1110,⟨(.type "cell"),none,.cell (some (Aa bg)),#[]⟩),BF bg B.b0 B.b1 B.b2 B.b3 be,((B.d0)+1109,av),((B.b0)+1109,AH B.d0 (BG.e0 B) (B.p0)),((B.d1)+1109,av),((B.b1)+1109,AH B.d1 (BG.e1 B) (B.p1)),((B.d2)+1109,av),((B.b2)+1109,AH B.d2 (BG.e2 B) (B.p2)),((B.d3)+1109,av),((B.b3)+1109,AH B.d3 (BG.e3 B) (B.p3)),B5 j x1.ito,(j+1110,⟨(.type "list"),none,.seq (qS.vs x1) (x1.ve),#[]⟩),(j+1111,au #[] ((x1.e0)+1))] x1.tl)) ((x1.j)+1109) ((x1.10)))⟩:=u7 94 (Hx 0x11c0c0cc0c030332) [[14,14,14]] [] 94 [2,3,3,0,3,0,12,0,1] [[14,14,14]] [] (by kernel_rfl)
theorem Lu {kf:Nat->Nat}{os:OsState}{q3 q6 q7 q8 q9 q10 aH aK q13 q14 fH gR gS gT:Value}(h6:∀ k,(T.F k).length<=1000):
  Qc b1 b2 pl d os fun b1 b2 pl=>⟨Ae w b1 b2,6,(By w b1 b2 l p4),oy (bT (b5 (Bp w b1 b2))) (Ax w b1 b2 l),[(l+1109,AY w b1 b2 pl t me un kf q3 (kV q6 q7 q8 q9 q10 aH aK q13 q14 fH gR gS gT) e0),Bc t T.t0 T.t1 T.t2 T.t3 te,Ar T.t0 T.e0 T.p0,Ar T.t1 T.e1 T.p1,Ar T.t2 T.e2 T.p2,Ar T.t3 T.e3 T.p3],j+1109,tk,.c (NZ true l t j (j+1) (j+2) te T h6 [1,6,7,8,2,3,4,5] (by decide) rfl) fun x1=>.e (.a (.done (.ret (.ref (j+1110)))) ((b8 [(l+1109,AY w b1 b2 pl t me un kf q3 (kV q6 q7 q8 q9 q10 aH aK q13 q14 fH gR gS gT) e0),BF t T.t0 T.t1 T.t2 T.t3 te,((T.t0)+1109,au (TG.e0 T) (T.p0)),((T.t1)+1109,au (TG.e1 T) (T.p1)),((T.t2)+1109,au (TG.e2 T) (T.p2)),((T.t3)+1109,au (TG.e3 T) (T.p3)),B5 j x1.ito,(j+1110,⟨(.type "list"),none,.seq (qS.vs x1) (x1.ve),#[]⟩),(j+1111,au #[] ((x1.e0)+1))] x1.tl)) ((x1.j)+1109) ((x1.10)))⟩:=u7 94 (Hx 0x1170707707020221) [[9,9,9]] [] 94 [1,2,2,0,2,0,7,0,1] [[9,9,9]] [] (by kernel_rfl)
end
section
open SeqAt
noncomputable abbrev Dm (st:Stmt):Prop:=st=.Return (some (b5 st)) st.pos
theorem Dn {M:Model}{env:Env}{e:Expr}{s:Shared}
  (h:∀ p,wp M Γ (eval e env) (fun v p s=>Q (.ret v) p s) X p s):wp M Γ (execs (.Return (some e) ps::rest) env) Q X p s:=by
 show wp M Γ (exec (.Return (some e) ps) env>>=fun f=>match f with | .next=>execs rest env | f=>pure f) Q X p s
 rw [Sem.wp_bind']
 show wp M Γ (standAt ps>>=fun _=>eval e env>>=fun v=>pure (Flow.ret v)) _ X p s
 simp only [Sem.wp_bind',Sem.wp_cmd_standAt]
 exact Sem.wp_mono M Γ _ (fun v p' s' h=>h) (fun _ _ _ h=>h) _ _ (h ps)
theorem Fg {M:Model}{env:Env}{st:Stmt}{s:Shared}(hs:Dm st)
  (h:∀ p,wp M Γ (eval (b5 st) env) (fun v p s=>Q (.ret v) p s) X p s):wp M Γ (execs (st::rest) env) Q X p s:=by
 rw [hs];exact Dn h
noncomputable def mC (E:En) (h:Heap) (vs:Array Value) (Ls:List KV):Prop:=vs.size=Ls.length/\∀ (j:Nat) (L:KV),Ls[j]?=some L->∃ a ys e,vs[j]?=some (.ref a)/\h.get? a=some (ac ys e)/\aB E h ys L
theorem dw.heap {Ls:List KV}(p:dw tl vs Ls) (H:∀ x∈tl,h.get? x.1=some x.2/\(gL x.1 E.mu=true∨E.T.get x.1=none)):mC E h vs Ls:=by
 refine ⟨p.1,fun j L e=>?_⟩
 obtain ⟨a,ys,e',e1,e2,e3⟩:=p.2 j L e
 refine ⟨a,ys,e',e1,(H _ e2).1,e3.1,fun i x q=>?_⟩
 obtain ⟨b,t,u,f1,f2⟩:=e3.2 i x q
 exact ⟨b,t,u,f1,H _ f2⟩
section
section
variable {E:En}{Q:Flow->Pos->Shared->Prop}{X:Value->Pos->Shared->Prop}{e e' i j Y n tk:Nat}{g:Array GenState}{h h₀:Heap}{m tl:Mm}{ns o:Obj}{p p4 ps:Pos}{rest:List Stmt}{vs:Array Value}{Γ:Ctx}
variable {E:En}{A:Around}{s:Shared}{xs ys:Array Value}{Ls:List KV}
theorem sz {a b:Addr}(hu:A.units+2 < cLine) (ha:s.heap.get? a=some (BM xs e)) (hb:s.heap.get? b=some (BM ys e')) (p:mC E s.heap xs Ls) (q:mC E s.heap ys Ls):RcAt A s (.ref a) (.ref b) true:=by
 have z:=RcAt.lists (A:=A) (s:=s) (e:=fun _=>true) (l:=a) (b:=b) ⟨_,ha,rfl,e,rfl⟩ ⟨_,hb,rfl,e',rfl⟩ (p.1.trans q.1.symm) (by lia) (fun j h1 h2=>by
  have hj:j < Ls.length:=by rw [<- p.1];exact h1
  obtain ⟨c,zs,k1,e1,e2,e3⟩:=p.2 j Ls[j] (List.getElem?_eq_getElem hj)
  obtain ⟨c',OM,ON,f1,f2,f3⟩:=q.2 j Ls[j] (List.getElem?_eq_getElem hj)
  rw [Array.getElem?_eq_getElem h1] at e1
  rw [Array.getElem?_eq_getElem h2] at f1
  rw [Option.some.inj e1,Option.some.inj f1]
  exact qO (by have:=jp A;lia) e2 f2 e3 f3)
 have e:((List.range xs.size).all fun _=>true)=true:=by simp
 rw [e] at z
 exact z
end
theorem ag.tail_ne (r:ag E h₀ Y (b8 m tl) n h) {x:Addr×Obj}(hx:x∈tl) {a:Addr}(e:ad m i=some (a,o)) (hi:i < aE m):a≠x.1:=by
 obtain ⟨j,ej⟩:=iK hx
 have e2:ad (b8 m tl) (aE m+j)=some (a,x.2)->False:=fun q=>by
  have e1:ad (b8 m tl) i=some (a,o):=by rw [dI,if_pos hi];exact e
  have:=r.apart _ _ a o x.2 e1 q
  lia
 intro q
 refine e2 ?_
 rw [dI,if_neg (by lia)]
 have:aE m+j - aE m=j:=by lia
 rw [this,ej,q]
section
variable {d:Drawn}{os:OsState}{w:World}{b1 b2:Bool}{t me un l bg be te:Nat}{pl:Bool}{B:BG}{T:TG}{h₀:Heap}{Y:Nat}
theorem Fh (w:World):Dm (ai w 1107 13):=by kernel_rfl
theorem Fi (w:World):mz .Eq (b5 (ai w 1107 13)):=by kernel_rfl
theorem sA (w:World) (l:Nat) (p4:Pos):(dk (eK w l p4)).units+2 < cLine:=by
 have:=mB w l p4
 have e:cLine=9900:=rfl
 lia
noncomputable abbrev AD:=fun a b c (d:BG) e f (g:TG) h=>([A6 a b,(a+1110,eu (some (Aa c))),(c+1109,ac (bM d.b0 d.b1 d.b2 d.b3) e),(d.d0+1109,av),(d.b0+1109,ah (d.d0+1109) d.e0 d.p0),(d.d1+1109,av),(d.b1+1109,ah (d.d1+1109) d.e1 d.p1),(d.d2+1109,av),(d.b2+1109,ah (d.d2+1109) d.e2 d.p2),(d.d3+1109,av),(d.b3+1109,ah (d.d3+1109) d.e3 d.p3),(f+1109,ac (bM g.t0 g.t1 g.t2 g.t3) h),(g.t0+1109,au g.e0 g.p0),(g.t1+1109,au g.e1 g.p1),(g.t2+1109,au g.e2 g.p2),(g.t3+1109,au g.e3 g.p3)]:Mm)
theorem Lv {q6 q7 q8 q9 q10 aH aK q13 q14 fH gR gS gT:Value}(hF:∀ k,B.F k=T.F k) (h6:∀ k,(T.F k).length<=1000)
  (aq:LN (W2 w b1 b2) pl t me un (kV q6 q7 q8 q9 q10 aH aK q13 q14 fH gR gS gT) ns) (hg:AllBare g) (al:ag (Ae w b1 b2) h₀ Y (AD l ns bg B be t T te) (j+1109) h)
  (nx:∀ ns j p h' g tk,AllBare g->ag (Ae w b1 b2) h 16 (AD l ns bg B be t T te) (j+1109) h'->Q (.ret (.bool true)) p ⟨h',g,d,tk,os⟩):wp (Bf w b1 b2) (By w b1 b2 l p4) (execs (Bp w b1 b2::rest) (Ax w b1 b2 l)) Q X p ⟨h,g,d,tk,os⟩:=by
 have Lw:=al.sub [0,1,2,3,4,5,6,7,8,9,10,11,12,13,14,15] (an rfl) (by decide)
 induction aq with | @i kf q3 e0=>?_
 refine Fg (Fh _) fun pa=>CU (.inl rfl) (Fi _) ?_
 refine iN (h₀:=h) (Y:=11) hg (Lw.sub [0,1,2,3,4,5,6,7,8,9,10] (an rfl) (by decide)) ?_
 refine Lt (by intro k;rw [hF];exact h6 k) pa (Nat.le_refl _) fun x _ pz h2 g2 ao aa=>?_
 intro pb
 have rj:=Lw.join' [0,1,2,3,4,5,6,7,8,9,10] (by decide) rfl aa rfl
 have k8:ag (E2 (W2 w b1 b2)) h 16 (b8 [(l+1109,_),(l+1110,eu (some (.ref (bg+1109)))),(bg+1109,ac (bM B.b0 B.b1 B.b2 B.b3) be),(B.d0+1109,av),(B.b0+1109,ah (B.d0+1109) B.e0 B.p0),(B.d1+1109,av),(B.b1+1109,ah (B.d1+1109) B.e1 B.p1),(B.d2+1109,av),(B.b2+1109,ah (B.d2+1109) B.e2 B.p2),(B.d3+1109,av),(B.b3+1109,ah (B.d3+1109) B.e3 B.p3),(t+1109,ac (bM T.t0 T.t1 T.t2 T.t3) te),(T.t0+1109,au T.e0 T.p0),(T.t1+1109,au T.e1 T.p1),(T.t2+1109,au T.e2 T.p2),(T.t3+1109,au T.e3 T.p3),(j+1109,x.ito),(j+1110,ac x.vs x.ve),(j+1111,au #[] (x.e0+1))] x.tl) (x.j+1109) h2:=rj
 have s6:=k8.sub [0,11,12,13,14,15] (fun i hi=>Nat.lt_of_lt_of_le ((by decide:∀ i∈[0,11,12,13,14,15],i < 16) i hi) k8.old) (by decide)
 have rs:ag (E2 (W2 w b1 b2)) h2 6 [(l+1109,_),(t+1109,ac (bM T.t0 T.t1 T.t2 T.t3) te),(T.t0+1109,au T.e0 T.p0),(T.t1+1109,au T.e1 T.p1),(T.t2+1109,au T.e2 T.p2),(T.t3+1109,au T.e3 T.p3)] (x.j+1109) h2:=s6
 refine iN (h₀:=h2) (Y:=6) ao rs ?_
 refine Lu h6 pb (Nat.le_refl _) fun y _ pz h3 g3 dY aS=>?_
 intro pc pd
 have N0:∀ z∈x.tl,h3.get? z.1=some z.2/\(gL z.1 (E2 (W2 w b1 b2)).mu=true∨(E2 (W2 w b1 b2)).T.get z.1=none):=fun z hz=>by
  obtain ⟨a1,a2⟩:=k8.tail hz
  refine ⟨aS.keep z.1 z.2 a1 fun i a o hi hm=>?_,a2⟩
  rcases i with _ | _ | _ | _ | _ | _ | i
  ·exact k8.tail_ne hz (i:=0) hm (by show 0 < 19;decide)
  ·exact k8.tail_ne hz (i:=11) hm (by show 11 < 19;decide)
  ·exact k8.tail_ne hz (i:=12) hm (by show 12 < 19;decide)
  ·exact k8.tail_ne hz (i:=13) hm (by show 13 < 19;decide)
  ·exact k8.tail_ne hz (i:=14) hm (by show 14 < 19;decide)
  ·exact k8.tail_ne hz (i:=15) hm (by show 15 < 19;decide)
  ·lia
 have oX:h3.get? (j+1110)=some (ac x.vs x.ve):=by
  refine aS.keep _ _ (k8.own 17 _ _ rfl) fun i a o hi hm e=>?_
  have ne:∀ (i':Nat) (a:Addr) (o:Obj),ad (b8 [(l+1109,_),(l+1110,eu (some (.ref (bg+1109)))),(bg+1109,ac (bM B.b0 B.b1 B.b2 B.b3) be),(B.d0+1109,av),(B.b0+1109,ah (B.d0+1109) B.e0 B.p0),(B.d1+1109,av),(B.b1+1109,ah (B.d1+1109) B.e1 B.p1),(B.d2+1109,av),(B.b2+1109,ah (B.d2+1109) B.e2 B.p2),(B.d3+1109,av),(B.b3+1109,ah (B.d3+1109) B.e3 B.p3),(t+1109,ac (bM T.t0 T.t1 T.t2 T.t3) te),(T.t0+1109,au T.e0 T.p0),(T.t1+1109,au T.e1 T.p1),(T.t2+1109,au T.e2 T.p2),(T.t3+1109,au T.e3 T.p3),(j+1109,x.ito),(j+1110,ac x.vs x.ve),(j+1111,au #[] (x.e0+1))] x.tl) i'=some (a,o)->i' < 16->a=j+1110->False:=fun i' a o q bv ea=>by
   subst ea
   have:=k8.apart _ _ _ _ _ q (show ad _ 17=some (j+1110,ac x.vs x.ve) from rfl)
   lia
  rcases i with _ | _ | _ | _ | _ | _ | i
  ·exact ne 0 a o hm (by decide) e
  ·exact ne 11 a o hm (by decide) e
  ·exact ne 12 a o hm (by decide) e
  ·exact ne 13 a o hm (by decide) e
  ·exact ne 14 a o hm (by decide) e
  ·exact ne 15 a o hm (by decide) e
  ·lia
 have oY:h3.get? (x.j+1110)=some (ac y.vs y.ve):=aS.own 7 _ _ rfl
 have lX:mC (E2 (W2 w b1 b2)) h3 x.vs ((List.range 4).map T.F):=by
  have e:(List.range 4).map B.F=(List.range 4).map T.F:=List.map_congr_left fun k _=>hF k
  rw [<- e]
  exact x.hP.heap N0
 have lY:mC (E2 (W2 w b1 b2)) h3 y.vs ((List.range 4).map T.F):=y.hP.heap fun z hz=>aS.tail hz
 have cm:wpAny (Mo (E2 (W2 w b1 b2))) (dk (eK (W2 w b1 b2) l p4)) (compareOp .Eq (.ref (j+1110)) (.ref (x.j+1110))) (fun c s=>c=.bool true/\∃ tk,s=⟨h3,g3,d,tk,os⟩) (fun _ _=>False) ⟨h3,g3,d,y.tk,os⟩:=sz (s:=⟨h3,g3,d,_,os⟩) (sA _ _ _) oX oY lX lY _ _ _ _ ⟨rfl,_,rfl⟩
 refine Sem.wp_mono _ _ _ (fun c p' s' h=>?_) (fun _ _ _ h=>h.elim) _ _ (bm cm pd)
 obtain ⟨rfl,tk,rfl⟩:=h
 have rk:=k8.join' [0,11,12,13,14,15] (by decide) rfl aS rfl
 exact nx _ y.j _ _ _ _ dY (rk.pick [0,1,2,3,4,5,6,7,8,9,10,11,12,13,14,15] 16 (by decide) (by decide) (Nat.le_refl _) rfl)
end
end
end
section
variable {B:BG}{T:TG}
theorem ug (hF:∀ k,B.F k=T.F k) (k:Int):max (max (max (pos B k 0) (pos B k 1)) (pos B k 2)) (pos B k 3)=max 0 (T.mx k):=by
 unfold pos TG.mx
 have h0:B.F 0=T.F0:=hF 0
 have h1:B.F 1=T.F1:=hF 1
 have h2:B.F 2=T.F2:=hF 2
 have h3:B.F 3=T.F3:=hF 3
 rw [h0,h1,h2,h3]
 generalize ct T.F0 k=a
 generalize ct T.F1 k=b
 generalize ct T.F2 k=c
 generalize ct T.F3 k=d
 have e1:max (max 0 a) (max 0 b)=max 0 (max a b):=by grind
 rw [e1]
 generalize max a b=x
 have e2:max (max 0 x) (max 0 c)=max 0 (max x c):=by grind
 rw [e2]
 generalize max x c=y
 grind
theorem uh (hF:∀ k,B.F k=T.F k) (k:Int):min (min (min (pos B k 0) (pos B k 1)) (pos B k 2)) (pos B k 3)=max 0 (T.mn k):=by
 unfold pos TG.mn
 have h0:B.F 0=T.F0:=hF 0
 have h1:B.F 1=T.F1:=hF 1
 have h2:B.F 2=T.F2:=hF 2
 have h3:B.F 3=T.F3:=hF 3
 rw [h0,h1,h2,h3]
 generalize ct T.F0 k=a
 generalize ct T.F1 k=b
 generalize ct T.F2 k=c
 generalize ct T.F3 k=d
 have e1:min (max 0 a) (max 0 b)=max 0 (min a b):=by grind
 rw [e1]
 generalize min a b=x
 have e2:min (max 0 x) (max 0 c)=max 0 (min x c):=by grind
 rw [e2]
 generalize min x c=y
 grind
theorem oI (hB:∀ k,PM (B.F k)) (hF:∀ k,B.F k=T.F k) (k:Int):ct (aC B (bu 15)) k=max 0 (T.mx k):=by
 rw [De,K8 hB,ug hF]
theorem ll (hB:∀ k,PM (B.F k)) (hF:∀ k,B.F k=T.F k) (k:Int):ct (aR B (bu 15)) k=max 0 (T.mn k):=by
 rw [De,La hB,uh hF]
theorem jT (hB:∀ k,PM (B.F k)) (hF:∀ k,B.F k=T.F k) (k:Int):ct (fM B 15) k=max 0 (T.mx k):=by
 rw [Lb hB,ug hF]
theorem jU (hB:∀ k,PM (B.F k)) (hF:∀ k,B.F k=T.F k) (k:Int):ct (fN B 15) k=max 0 (T.mn k):=by
 rw [Lc hB,uh hF]
theorem N1 (hB:∀ k,PM (B.F k)) (hF:∀ k,B.F k=T.F k) (k:Int):CY T (fM B 15) (fN B 15) k:=⟨jT hB hF k,jU hB hF k⟩
theorem jq {A C:KV}(h:∀ k,ct A k=ct C k):eJ A C=true:=by
 unfold eJ
 rw [List.all_map,List.all_eq_true]
 intro x _
 show (ct A x.1==ct C x.1)=true
 rw [h];simp
theorem kL {A C:KV}{k:Int}(h:ct A k≠ct C k) (hk:ct A k≠0):eJ A C=false:=by
 have hm:∃ x∈A,x.1=k:=by
  rcases jn (F:=A) (k:=k) with ⟨v,h1,_⟩ | ⟨_,h2⟩
  ·exact ⟨_,mr h1,rfl⟩
  ·exact absurd h2 hk
 obtain ⟨x,hx,rfl⟩:=hm
 unfold eJ
 cases q:((A++C).map fun x=>ct A x.1==ct C x.1).all id with
 | false=>rfl
 | true=>
  rw [List.all_map,List.all_eq_true] at q
  have:=q x (List.mem_append.mpr (.inl hx))
  exact absurd (eq_of_beq this) h
theorem Do {U:KV}(hU:PU U) (x:Int×Int):(bS U x).map (·.1)=if x.2>0 then (if x.1∈U.map (·.1) then U.map (·.1) else U.map (·.1)++[x.1]) else U.map (·.1):=by
 unfold bS
 have h0:=hU.ct x.1
 by_cases hp:x.2>0
 ·rw [if_pos hp]
  by_cases hm:x.1∈U.map (·.1)
  ·rw [if_pos hm]
   split
   ·rw [jm,if_pos hm]
   ·rfl
  ·rw [if_neg hm]
   have:ct U x.1=0:=iA (fZ.mpr hm)
   rw [if_pos (by lia),jm,if_neg hm]
 ·rw [if_neg hp,if_neg (by lia)]
theorem Fj (T:TG) (H:KV) (x:Int×Int):(ij T H x).map (·.1)=if x.2>0 then (if x.1∈H.map (·.1) then H.map (·.1) else H.map (·.1)++[x.1]) else H.map (·.1):=by
 unfold ij
 split
 ·split
  ·rfl
  ·rw [List.map_append];rfl
 ·rfl
theorem Fk (T:TG) {H:KV}(h:∀ y∈H,y.2=T.mx y.1) (x:Int×Int):∀ y∈ij T H x,y.2=T.mx y.1:=by
 unfold ij
 split
 ·split
  ·exact h
  ·intro y hy
   rcases List.mem_append.mp hy with hy | hy
   ·exact h y hy
   ·rw [List.mem_singleton] at hy;subst hy;rfl
 ·exact h
theorem Fl (T:TG) {F:KV}(hF:∀ k∈F.map (·.1),0<=k/\k < 6) {U H:KV}(hU:PU U) (hk:U.map (·.1)=H.map (·.1)) (hv:∀ y∈H,y.2=T.mx y.1):
  PU (F.foldl bS U)/\(F.foldl bS U).map (·.1)=(F.foldl (ij T) H).map (·.1)/\∀ y∈F.foldl (ij T) H,y.2=T.mx y.1:=by
 induction F generalizing U H with
 | nil=>exact ⟨hU,hk,hv⟩
 | cons x F ih=>
  rw [List.foldl_cons,List.foldl_cons]
  refine ih (fun k hk=>hF k (List.mem_cons_of_mem _ hk)) (qH hU (hF _ (List.mem_cons_self ..))) ?_ (Fk T hv x)
  rw [Do hU,Fj,hk]
theorem Fn {A C:KV}(hk:A.map (·.1)=C.map (·.1)) (hn:(A.map (·.1)).Nodup) (h:∀ k,ct A k=ct C k):A=C:=by
 induction A generalizing C with
 | nil=>cases C with
  | nil=>rfl
  | cons y C=>cases hk
 | cons x A ih=>
  cases C with
  | nil=>cases hk
  | cons y C=>
   rw [List.map_cons,List.map_cons] at hk
   injection hk with h1 h2
   have n1:=hn
   rw [List.map_cons,List.nodup_cons] at n1
   have hx:x.2=y.2:=by
    have e1:=lg hn (List.mem_cons_self ..)
    have vE:((y::C).map (·.1)).Nodup:=by rw [List.map_cons,<- h1,<- h2];exact hn
    have e2:=lg vE (List.mem_cons_self ..)
    rw [<- e1,<- e2,h1];exact h _
   have N2:x=y:=by
    obtain ⟨a,b⟩:=x
    obtain ⟨c,e⟩:=y
    dsimp only at h1 hx
    rw [h1,hx]
   subst N2
   congr 1
   refine ih h2 n1.2 fun k=>?_
   by_cases hk:x.1=k
   ·subst hk
    rw [iA (fZ.mpr n1.1),iA (fZ.mpr (h2▸n1.1))]
   ·have:=h k
    unfold ct at this ⊢
    have e:∀ (L:KV),lk (x::L) k=lk L k:=fun L=>by
     show (if x.1=k then some x.2 else lk L k)=_
     rw [if_neg hk]
    rw [e,e] at this
    exact this
theorem Dp (hB:∀ k,PM (B.F k)) (hF:∀ k,B.F k=T.F k):fG T 4=aC B (bu 15):=by
 have key:∀ c,PU (aC B (List.range c))/\(aC B (List.range c)).map (·.1)=(fG T c).map (·.1)/\∀ y∈fG T c,y.2=T.mx y.1:=by
  intro c
  induction c with
  | zero=>exact ⟨PU.nil,rfl,fun _ h=>nomatch h⟩
  | succ c ih=>
   have e:aC B (List.range (c+1))=(T.F c).foldl bS (aC B (List.range c)):=by
    show (List.range (c+1)).foldl (fx B) []=_
    rw [List.range_succ,List.foldl_append]
    show (B.F c).foldl bS _=_
    rw [hF];rfl
   rw [e]
   exact Fl T (by rw [<- hF];exact (hB c).1.2) ih.1 ih.2.1 ih.2.2
 obtain ⟨k1,k2,k3⟩:=key 4
 have e4:bu 15=List.range 4:=by decide
 have hn:((fG T 4).map (·.1)).Nodup:=k2▸k1.1.1
 rw [e4]
 refine Fn k2.symm hn fun k=>?_
 have hu:ct (aC B (List.range 4)) k=max 0 (T.mx k):=by rw [<- e4];exact oI hB hF k
 rw [hu]
 rcases jn (F:=fG T 4) (k:=k) with ⟨v,h1,h2⟩ | ⟨h1,h2⟩
 ·have hm:=mr h1
  have hv:=k3 _ hm
  have:k∈(aC B (List.range 4)).map (·.1):=by rw [k2];exact List.mem_map_of_mem (f:=(·.1)) hm
  obtain ⟨x,hx,rfl⟩:=List.mem_map.mp this
  have hp:=k1.2 x hx
  have hc:=lg k1.1.1 hx
  rw [hu] at hc
  have hv:v=T.mx x.1:=hv
  rw [h2,hv];lia
 ·rw [h2]
  have:k ∉ (aC B (List.range 4)).map (·.1):=by rw [k2];exact fZ.mp h1
  have:=iA (fZ.mpr this)
  rw [hu] at this
  exact this.symm
theorem Gp (F:KV) (m c:Int×Int->Int) (C:KV) (hc:∀ x∈F,c x=ct C x.1):(((F.map fun x=>(x.1,m x)).filter fun x=>decide (x.2>0)).map fun x=>(x.1,min x.2 (ct C x.1))).filter (fun x=>decide (x.2>0))=(F.map fun x=>(x.1,min (m x) (c x))).filter fun x=>decide (x.2>0):=by
 induction F with
 | nil=>rfl
 | cons x F ih=>
  have e:=hc x (List.mem_cons_self ..)
  have ih:=ih fun y hy=>hc y (List.mem_cons_of_mem _ hy)
  rw [List.map_cons,List.filter_cons,List.map_cons,List.filter_cons]
  dsimp only
  by_cases h:m x>0
  ·rw [if_pos (decide_eq_true h),List.map_cons,List.filter_cons]
   dsimp only
   rw [e,ih]
  ·rw [if_neg (by simpa using h),ih,if_neg (by simp;lia)]
theorem kN (T:TG):∀ (F L:KV),F.foldl (kY T) L=L++(F.map fun x=>(x.1,T.mn x.1)).filter fun x=>decide (x.2>0)
 | [],L=>by simp
 | x::F,L=>by
  rw [List.foldl_cons,kN T F,List.map_cons,List.filter_cons]
  unfold kY
  by_cases h:T.mn x.1>0
  ·rw [if_pos h,if_pos (decide_eq_true h)];simp
  ·rw [if_neg h,if_neg (by simpa using h)]
theorem Fo (hB:∀ k,PM (B.F k)) (hF:∀ k,B.F k=T.F k):T.F0.foldl (kY T) []=aR B (bu 15):=by
 rw [kN,List.nil_append,De]
 have h0:B.F 0=T.F0:=hF 0
 have h1:B.F 1=T.F1:=hF 1
 have h2:B.F 2=T.F2:=hF 2
 have h3:B.F 3=T.F3:=hF 3
 have p0:=hB 0
 show _=dM B (dM B (dM B (B.F 0) 1) 2) 3
 have m1:=gX hB p0 1
 have m2:=gX hB m1 2
 have a1:dM B (B.F 0) 1=((B.F 0).map fun x=>(x.1,min x.2 (ct (B.F 1) x.1))).filter fun x=>decide (x.2>0):=(gI p0.1.1 (fun _ _=>List.not_mem_nil)).trans (List.nil_append _)
 have a2:dM B (dM B (B.F 0) 1) 2=((dM B (B.F 0) 1).map fun x=>(x.1,min x.2 (ct (B.F 2) x.1))).filter fun x=>decide (x.2>0):=(gI m1.1.1 (fun _ _=>List.not_mem_nil)).trans (List.nil_append _)
 have a3:dM B (dM B (dM B (B.F 0) 1) 2) 3=((dM B (dM B (B.F 0) 1) 2).map fun x=>(x.1,min x.2 (ct (B.F 3) x.1))).filter fun x=>decide (x.2>0):=(gI m2.1.1 (fun _ _=>List.not_mem_nil)).trans (List.nil_append _)
 rw [a3,a2,a1,Gp (B.F 0) (fun x=>min x.2 (ct (B.F 1) x.1)) (fun x=>ct (B.F 2) x.1) (B.F 2) (fun _ _=>rfl),Gp (B.F 0) (fun x=>min (min x.2 (ct (B.F 1) x.1)) (ct (B.F 2) x.1)) (fun x=>ct (B.F 3) x.1) (B.F 3) (fun _ _=>rfl)]
 rw [h0,h1,h2,h3]
 congr 1
 refine List.map_congr_left fun x hx=>?_
 have:ct T.F0 x.1=x.2:=lg (h0▸p0.1.1) hx
 unfold TG.mn
 rw [this]
end
noncomputable def oJ (L:KV) (c:Int):Prop:=Ks L/\ct L 5=c
theorem oJ.put {L:KV}{c:Int}(h:oJ L c) {k:Int}(hk:0<=k/\k < 5) (v:Int):oJ (bw L k v) c:=by
 refine ⟨h.1.put ⟨hk.1,by lia⟩ v,?_⟩
 rw [iz,if_neg (by lia)];exact h.2
noncomputable def iC (T:cK):Prop:=oJ T.a 2/\oJ T.b 4/\oJ T.c 1/\oJ T.d 3
theorem iC.put {T:cK}(h:iC T) (r:Nat) (x v:Int):iC (T.put r (x.fmod 5) v):=by
 have hk:0<=x.fmod 5/\x.fmod 5 < 5:=⟨Int.fmod_nonneg_of_pos _ (by decide),Int.fmod_lt_of_pos _ (by decide)⟩
 obtain ⟨h1,h2,h3,h4⟩:=h
 unfold cK.put
 split
 ·exact ⟨h1.put hk v,h2,h3,h4⟩
 ·exact ⟨h1,h2.put hk v,h3,h4⟩
 ·exact ⟨h1,h2,h3.put hk v,h4⟩
 ·exact ⟨h1,h2,h3,h4.put hk v⟩
theorem iC.of:∀ (ls:List (Int×Tok)) (i:Nat) {T:cK},iC T->iC (b4 ls i T)
 | [],_,_,h=>h
 | y::r,i,T,h=>iC.of r (i+1) (h.put (i % 4) y.1 (y.1.fdiv 5))
theorem iC.start:iC TI:=by
 refine ⟨⟨⟨?_,?_⟩,rfl⟩,⟨⟨?_,?_⟩,rfl⟩,⟨⟨?_,?_⟩,rfl⟩,⟨⟨?_,?_⟩,rfl⟩⟩<;>decide
theorem oJ.pm {L:KV}{c:Int}(h:oJ L c) (hc:0 < c):PM L:=⟨h.1,by rw [h.2];exact hc⟩
theorem iP {F:KV}(h:(F.map (·.1)).Nodup):cj [] F=F:=by
 have z:∀ (F R:KV),((R++F).map (·.1)).Nodup->F.foldl (fun r x=>bw r x.1 x.2) R=R++F:=by
  intro F
  induction F with
  | nil=>intro R _;simp
  | cons x F ih=>
   intro R hn
   have hx:x.1 ∉ R.map (·.1):=by
    rw [List.map_append,List.nodup_append] at hn
    exact fun hm=>hn.2.2 _ hm _ (by rw [List.map_cons];exact List.mem_cons_self ..) rfl
   rw [List.foldl_cons,np hx]
   have e:R++x::F=(R++[x])++F:=by simp
   rw [e] at hn ⊢
   exact ih _ hn
 exact (z F [] (by simpa using h)).trans (List.nil_append _)
section
variable {Q:Flow->Pos->Shared->Prop}{X:Value->Pos->Shared->Prop}{cd j tk:Nat}{g:Array GenState}{h:Heap}{hs ls:Array Value}{ns:Obj}{p p4:Pos}
section
noncomputable abbrev FM (aX:Array Value) (se:Nat) (o9:Obj) (l:Nat) (ns:Obj) (bg:Nat) (cc:Option Value) (t te:Nat) (T:TG) (be:Nat) (B:BG) (du un dm me da a db b:Nat) (us:Array DictEntry) (up:Nat) (ms:Array DictEntry) (mp:Nat) (es:Array DictEntry) (ep:Nat) (fs:Array DictEntry) (fp hi lo:Nat) (hs:Array Value) (he:Nat) (ls:Array Value) (le:Nat):Mm:=[(1108,ac aX se),(975,o9),(l+1109,ns),(l+1110,eu (some (.ref (bg+1109)))),(l+1111,eu cc),(t+1109,ac (bM T.t0 T.t1 T.t2 T.t3) te),(T.t0+1109,au T.e0 T.p0),(T.t1+1109,au T.e1 T.p1),(T.t2+1109,au T.e2 T.p2),(T.t3+1109,au T.e3 T.p3),(bg+1109,ac (bM B.b0 B.b1 B.b2 B.b3) be),(B.d0+1109,av),(B.b0+1109,ah (B.d0+1109) B.e0 B.p0),(B.d1+1109,av),(B.b1+1109,ah (B.d1+1109) B.e1 B.p1),(B.d2+1109,av),(B.b2+1109,ah (B.d2+1109) B.e2 B.p2),(B.d3+1109,av),(B.b3+1109,ah (B.d3+1109) B.e3 B.p3),(du+1109,av),(un+1109,ah (du+1109) us up),(dm+1109,av),(me+1109,ah (dm+1109) ms mp),(da+1109,av),(a+1109,ah (da+1109) es ep),(db+1109,av),(b+1109,ah (db+1109) fs fp),(hi+1109,ac hs he),(lo+1109,ac ls le)]
variable {d:Drawn}{os:OsState}{w:World}{b1 b2:Bool}{pl:Bool}{B:BG}{T:TG}{aX:Array Value}{se l bg t te be du un dm me da a db b up mp ep fp hi lo he le:Nat}{cc:Option Value}{us ms es fs:Array DictEntry}{h₀:Heap}{Y:Nat}
theorem Lx (hF:∀ k,B.F k=T.F k) (hB:∀ k,PM (B.F k)) {q6 q7 q8 q9 q10 aH aK q13 q14 fH gR gS gT:Value}(aq:LN (W2 w b1 b2) pl t me un (kV q6 q7 q8 q9 q10 aH aK q13 q14 fH gR gS gT) ns) (hg:AllBare g) (al:ag (Ae w b1 b2) h₀ 5 (FM aX se (Ba cd) l ns bg cc t te T be B du un dm me da a db b us up ms mp es ep fs fp hi lo hs he ls le) (j+1109) h)
  (nx:∀ cd ns j p h g tk hs he ls le,AllBare g->ag (Ae w b1 b2) h₀ 5 (FM aX se (Ba cd) l ns bg cc t te T be B du un dm me da a db b us up ms mp es ep fs fp hi lo hs he ls le) (j+1109) h->Q (.ret (.bool true)) p ⟨h,g,d,tk,os⟩):wp (Bf w b1 b2) (By w b1 b2 l p4) (execs ([Bp w b1 b2]) (Ax w b1 b2 l)) Q X p ⟨h,g,d,tk,os⟩:=by
 refine Lv (B:=B) (T:=T) (bg:=bg) (be:=be) (te:=te) (h₀:=h) (Y:=16) hF (fun k=>by rw [<- hF];have:=(hB k).1.len;lia) aq hg (al.sub [2,3,10,11,12,13,14,15,16,17,18,5,6,7,8,9] (an rfl) (by decide)) ?_
 intro ns j p h' g tk hg bk
 exact nx cd ns j p h' g tk hs he ls le hg (al.join' [2,3,10,11,12,13,14,15,16,17,18,5,6,7,8,9] (by decide) rfl bk rfl)
theorem Ly (hF:∀ k,B.F k=T.F k) (hB:∀ k,PM (B.F k)) (hx:T.mx 5=4) (hn:T.mn 5=1) (hU:Z us (fM B 15)) (hM:Z ms (fN B 15)) (hE:Z es (aC B (bu 15))) (hL:Z fs (aR B (bu 15))) {q8 q9 q10 aH aK q13 q14:Value}(aq:LN (W2 w b1 b2) pl t me un (t9 (Aa b) (Aa a) q8 q9 q10 aH aK q13 q14) ns) (hg:AllBare g) (al:ag (Ae w b1 b2) h₀ 5 (FM aX se (BL w b1 b2) l ns bg cc t te T be B du un dm me da a db b us up ms mp es ep fs fp hi lo hs he ls le) (j+1109) h)
  (nx:∀ cd ns j p h g tk hs he ls le,AllBare g->ag (Ae w b1 b2) h₀ 5 (FM aX se (Ba cd) l ns bg cc t te T be B du un dm me da a db b us up ms mp es ep fs fp hi lo hs he ls le) (j+1109) h->Q (.ret (.bool true)) p ⟨h,g,d,tk,os⟩):wp (Bf w b1 b2) (By w b1 b2 l p4) (execs (ca (W2 w b1 b2) 11 1++(AN w b1 b2::[Bp w b1 b2])) (Ax w b1 b2 l)) Q X p ⟨h,g,d,tk,os⟩:=by
 refine Lf (h₀:=h) (Y:=10) hU hM hE hL (Cp hB 14) (Cq hB (by decide)) (fy hB _).ne (jq fun k=>by rw [jT hB hF,oI hB hF]) (jq fun k=>by rw [jU hB hF,ll hB hF]) (jq fun k=>by rw [jU hB hF,ll hB hF])
  (kL (k:=5) (by rw [jT hB hF,jU hB hF,hx,hn];decide) (by rw [jT hB hF,hx];decide)) (kL (k:=5) (by rw [ll hB hF,oI hB hF,hx,hn];decide) (by rw [ll hB hF,hn];decide)) aq hg ((al.sub [2,19,20,21,22,23,24,25,26,1] (an rfl) (by decide))) ?_
 intro cd fH gR gS gT ns j tk h' g p aq hg bk
 exact Lx hF hB (hs:=hs) (ls:=ls) (cd:=cd) aq hg (al.join' [2,19,20,21,22,23,24,25,26,1] (by decide) rfl bk rfl) nx
theorem Lz (hF:∀ k,B.F k=T.F k) (hB:∀ k,PM (B.F k)) (hx:T.mx 5=4) (hn:T.mn 5=1) (hU:Z us (fM B 15)) (hM:Z ms (fN B 15)) (hE:Z es (aC B (bu 15))) (hL:Z fs (aR B (bu 15))) {q8 q9 q10 aH aK q13 q14:Value}(aq:LN (W2 w b1 b2) pl t me un (t9 (Aa b) (Aa a) q8 q9 q10 aH aK q13 q14) ns) (hg:AllBare g) (al:ag (Ae w b1 b2) h₀ 5 (FM aX se (BL w b1 b2) l ns bg cc t te T be B du un dm me da a db b us up ms mp es ep fs fp hi lo hs he ls le) (j+1109) h)
  (nx:∀ cd ns j p h g tk hs he ls le,AllBare g->ag (Ae w b1 b2) h₀ 5 (FM aX se (Ba cd) l ns bg cc t te T be B du un dm me da a db b us up ms mp es ep fs fp hi lo hs he ls le) (j+1109) h->Q (.ret (.bool true)) p ⟨h,g,d,tk,os⟩):wp (Bf w b1 b2) (By w b1 b2 l p4) (execs (AS (W2 w b1 b2)::(ca (W2 w b1 b2) 11 1++(AN w b1 b2::[Bp w b1 b2]))) (Ax w b1 b2 l)) Q X p ⟨h,g,d,tk,os⟩:=by
 refine K7 (T:=T) (te:=te) (h₀:=h) (Y:=10) hU hM (fun k _=>N1 hB hF _) (Nat.le_refl _) aq hg (al.sub [2,5,6,7,8,9,19,20,21,22] (an rfl) (by decide)) ?_
 intro q14 ns j tk h' g p aq hg bk
 exact Ly hF hB hx hn hU hM hE hL (hs:=hs) (ls:=ls) aq hg (al.join' [2,5,6,7,8,9,19,20,21,22] (by decide) rfl bk rfl) nx
theorem N3 (hF:∀ k,B.F k=T.F k) (hB:∀ k,PM (B.F k)) (hx:T.mx 5=4) (hn:T.mn 5=1) (hU:Z us (fM B 15)) (hM:Z ms (fN B 15)) (hE:Z es (aC B (bu 15))) (hL:Z fs (aR B (bu 15))) {q8 q9 q10 q13 q14:Value}(pH:aB (Ae w b1 b2) h hs (aC B (bu 15))) (pL:aB (Ae w b1 b2) h ls (aR B (bu 15))) (aq:LN (W2 w b1 b2) pl t me un (t9 (Aa b) (Aa a) q8 q9 q10 (Aa lo) (Aa hi) q13 q14) ns) (hg:AllBare g) (al:ag (Ae w b1 b2) h₀ 5 (FM aX se (BL w b1 b2) l ns bg cc t te T be B du un dm me da a db b us up ms mp es ep fs fp hi lo hs he ls le) (j+1109) h)
  (nx:∀ cd ns j p h g tk hs he ls le,AllBare g->ag (Ae w b1 b2) h₀ 5 (FM aX se (Ba cd) l ns bg cc t te T be B du un dm me da a db b us up ms mp es ep fs fp hi lo hs he ls le) (j+1109) h->Q (.ret (.bool true)) p ⟨h,g,d,tk,os⟩):wp (Bf w b1 b2) (By w b1 b2 l p4) (execs (BH (W2 w b1 b2)::(AS (W2 w b1 b2)::(ca (W2 w b1 b2) 11 1++(AN w b1 b2::[Bp w b1 b2])))) (Ax w b1 b2 l)) Q X p ⟨h,g,d,tk,os⟩:=by
 refine Nt (h₀:=h) (Y:=7) hE hL (by have:=(fg hB (bu 15)).1.len;lia) (by have:=(fy hB (bu 15)).1.len;lia) pH pL aq hg (al.sub [2,23,24,25,26,27,28] (an rfl) (by decide)) ?_
 intro j tk h' g p hg bk
 exact Lz hF hB hx hn hU hM hE hL (hs:=hs) (ls:=ls) aq hg (al.join' [2,23,24,25,26,27,28] (by decide) rfl bk rfl) nx
theorem N4 (hF:∀ k,B.F k=T.F k) (hB:∀ k,PM (B.F k)) (hx:T.mx 5=4) (hn:T.mn 5=1) (hU:Z us (fM B 15)) (hM:Z ms (fN B 15)) (hE:Z es (aC B (bu 15))) (hL:Z fs (aR B (bu 15))) {q8 q9 q10:Value}(aq:LN (W2 w b1 b2) pl t me un (t7 (Aa b) (Aa a) q8 q9 q10 (Aa lo) (Aa hi)) ns) (hg:AllBare g) (al:ag (Ae w b1 b2) h₀ 5 (FM aX se (BL w b1 b2) l ns bg cc t te T be B du un dm me da a db b us up ms mp es ep fs fp hi lo #[] he #[] le) (j+1109) h)
  (nx:∀ cd ns j p h g tk hs he ls le,AllBare g->ag (Ae w b1 b2) h₀ 5 (FM aX se (Ba cd) l ns bg cc t te T be B du un dm me da a db b us up ms mp es ep fs fp hi lo hs he ls le) (j+1109) h->Q (.ret (.bool true)) p ⟨h,g,d,tk,os⟩):wp (Bf w b1 b2) (By w b1 b2 l p4) (execs (ai (W2 w b1 b2) 1107 7::(Br (W2 w b1 b2)::(BH (W2 w b1 b2)::(AS (W2 w b1 b2)::(ca (W2 w b1 b2) 11 1++(AN w b1 b2::[Bp w b1 b2])))))) (Ax w b1 b2 l)) Q X p ⟨h,g,d,tk,os⟩:=by
 have hT:∀ k,PM (T.F k):=fun k=>hF k▸hB k
 refine Nr (T:=T) (te:=te) (hi:=hi) (h₀:=h) (Y:=7) hT (Nat.le_refl _) aq hg (al.sub [2,27,5,6,7,8,9] (an rfl) (by decide)) ?_
 intro hs he q13 q14 ns j tk h1 g p pH aq hg bk
 rw [Dp hB hF] at pH
 have aj:ag (E2 (W2 w b1 b2)) h₀ 5 (FM aX se (jH (W2 w b1 b2)) l ns bg cc t te T be B du un dm me da a db b us up ms mp es ep fs fp hi lo hs he #[] le) (j+1109) h1:=al.join' [2,27,5,6,7,8,9] (by decide) rfl bk rfl
 have r8:=aj.sub [2,28,5,6,7,8,9] (an rfl) (by decide)
 refine Ns (T:=T) (te:=te) (lo:=lo) (h₀:=h1) (Y:=7) hT aq hg r8 ?_
 intro ls OO q14 aQ j tk h2 g p pL cq hg aa
 rw [Fo hB hF] at pL
 have E5:=pH.step r8 aa rfl (bN.step (m:=[(l+1109,ns),(lo+1109,ac #[] le),(t+1109,ac (bM T.t0 T.t1 T.t2 T.t3) te),(T.t0+1109,au T.e0 T.p0),(T.t1+1109,au T.e1 T.p1),(T.t2+1109,au T.e2 T.p2),(T.t3+1109,au T.e3 T.p3)]) (⟨aq.t,bI _ _,bI _ _,c8 _ _,c8 _ _,c8 _ _,c8 _ _,trivial⟩) (Nat.le_refl _))
 exact N3 hF hB hx hn hU hM hE hL E5 pL cq hg (aj.join' [2,28,5,6,7,8,9] (by decide) rfl aa rfl) nx
end
end
noncomputable abbrev BP:=fun (a:BG)=>((a.b0+1109,ah (a.d0+1109) a.e0 a.p0):Addr×Obj)
noncomputable abbrev BR:=fun (a:BG)=>((a.b1+1109,ah (a.d1+1109) a.e1 a.p1):Addr×Obj)
noncomputable abbrev BS:=fun (a:BG)=>((a.b2+1109,ah (a.d2+1109) a.e2 a.p2):Addr×Obj)
noncomputable abbrev BU:=fun (a:BG)=>((a.b3+1109,ah (a.d3+1109) a.e3 a.p3):Addr×Obj)
theorem LA {kf:Nat->Nat}{d:Drawn}{os:OsState}{w:World}{b1 b2:Bool}{j tk:Nat}{l t un me du dm bg be e0:Nat}{pl:Bool}{q3 q6 q7:Value}{B:BG}{p4:Pos}(hB:∀ k,PM (B.F k)):
  Qc b1 b2 pl d os fun b1 b2 pl=>⟨Ae w b1 b2,16,(By w b1 b2 l p4),c9 (ca (W2 w b1 b2) 5 1) (Ax w b1 b2 l),[(l+1109,AY w b1 b2 pl t me un kf q3 (t2 q6 q7) e0),(l+1110,eu (some (Aa bg))),(l+1111,eu none),(bg+1109,Bq B be),Aj du,Bm un du,Aj dm,Bm me dm,(B.d0+1109,av),BP B,(B.d1+1109,av),BR B,(B.d2+1109,av),BS B,(B.d3+1109,av),BU B],j+1109,tk,.c (Ni t me un l (j+1) bg be du dm pl q6 q7 B hB (ns:=bB (W2 w b1 b2) pl t me un kf q3 (t2 q6 q7) e0) LN.i [0,1,2,17,3,4,5,6,7,8,9,10,11,12,13,14,15] (by decide) rfl) fun x1=>.e (.e (.done .next) [B5 l x1.ns,(l+1110,⟨(.type "cell"),none,.cell (some (Aa bg)),#[]⟩),(l+1111,⟨(.type "cell"),none,.cell (vT.cc x1),#[]⟩),(bg+1109,⟨(.type "list"),none,.seq #[(.ref ((B.b0)+1109)),(.ref ((B.b1)+1109)),(.ref ((B.b2)+1109)),(.ref ((B.b3)+1109))] be,#[]⟩),Aj du,(un+1109,AP du (vT.us x1) (x1.up)),Aj dm,(me+1109,AP dm (vT.ms x1) (x1.mp)),((B.d0)+1109,av),((B.b0)+1109,AH B.d0 (BG.e0 B) (B.p0)),((B.d1)+1109,av),((B.b1)+1109,AH B.d1 (BG.e1 B) (B.p1)),((B.d2)+1109,av),((B.b2)+1109,AH B.d2 (BG.e2 B) (B.p2)),((B.d3)+1109,av),((B.b3)+1109,AH B.d3 (BG.e3 B) (B.p3)),((x1.da)+1109,(av)),((x1.a)+1109,(AH x1.da (vT.es x1) (x1.ep))),((x1.db)+1109,(av)),((x1.b)+1109,(AH x1.db (vT.fs x1) (x1.fp)))] ((x1.j)+1109) ((x1.22)))⟩:=b7 99 (Hx 0x1112f11f11f11f011f011f11f11f011f011f11f000000) [[]] [18,19,20,21] (by kernel_rfl)
theorem LB {kf:Nat->Nat}{d:Drawn}{os:OsState}{w:World}{b1 b2:Bool}{j tk:Nat}{l t un me e0:Nat}{pl:Bool}{q3 q6 q7 q8 q9 q10:Value}{p4:Pos}:
  Qv w b1 b2 pl d os fun W pl=>⟨E2 W,1,(eK W l p4),c9 (ca W 6 1) (ab W l),[(l+1109,bB W pl t me un kf q3 (t5 q6 q7 q8 q9 q10) e0)],j+1109,tk,.e (.e (.done .next) [(l+1109,bB W pl t me un (uf (uf kf 10 tk) 11 (tk+1)) q3 (t7 q6 q7 q8 q9 q10 (.ref (j+1110)) (.ref (j+1109))) (e0+2)),(j+1109,⟨(.type "list"),none,.seq #[] 0,#[]⟩),(j+1110,⟨(.type "list"),none,.seq #[] 0,#[]⟩)] (j+1115) (tk+2))⟩:=b7 126 (Hx 0x1111175545505055545505055545505055040444) [] [1,2] (by kernel_rfl)
section
variable {L:List Stmt}{Q:Flow->Pos->Shared->Prop}{X:Value->Pos->Shared->Prop}{b1 b2:Bool}{e0 j k1 k2 k3 tk:Nat}{g:Array GenState}{h:Heap}{ns:Obj}{p p4:Pos}{w:World}
section
variable {d:Drawn}{os:OsState}{w:World}{b1 b2:Bool}{pl:Bool}{B:BG}{T:TG}{aX:Array Value}{se l bg t te be du un dm me da a db b up mp ep fp:Nat}{cc:Option Value}{us ms es fs:Array DictEntry}{h₀:Heap}
noncomputable abbrev B8:=fun a b c d e f g=>([(1108,ac a b),(975,Ba c),A6 d e,(d+1110,f),(d+1111,g)]:Mm)
theorem N5 (hF:∀ k,B.F k=T.F k) (hB:∀ k,PM (B.F k)) (hx:T.mx 5=4) (hn:T.mn 5=1) (hU:Z us (fM B 15)) (hM:Z ms (fN B 15)) (hE:Z es (aC B (bu 15))) (hL:Z fs (aR B (bu 15))) {q8 q9 q10:Value}(aq:LN (W2 w b1 b2) pl t me un (t5 (Aa b) (Aa a) q8 q9 q10) ns) (hg:AllBare g) (al:ag (Ae w b1 b2) h₀ 5 [(1108,BM aX se),(975,(BL w b1 b2)),A6 l ns,(l+1110,eu (some (Aa bg))),(l+1111,eu cc),(t+1109,Be T te),B9 T,BA T,BJ T,BN T,(bg+1109,Bq B be),(B.d0+1109,av),BP B,(B.d1+1109,av),BR B,(B.d2+1109,av),BS B,(B.d3+1109,av),BU B,Aj du,Ac un du us up,Aj dm,Ac me dm ms mp,Aj da,Ac a da es ep,Aj db,Ac b db fs fp] (j+1109) h)
  (nx:∀ cd ns c1 c2 j p h g tk,AllBare g->ag (Ae w b1 b2) h₀ 5 (B8 aX se cd l ns c1 c2) (j+1109) h->Q (.ret (.bool true)) p ⟨h,g,d,tk,os⟩):wp (Bf w b1 b2) (By w b1 b2 l p4) (execs (ca (W2 w b1 b2) 6 1++(ai (W2 w b1 b2) 1107 7::(Br (W2 w b1 b2)::(BH (W2 w b1 b2)::(AS (W2 w b1 b2)::(ca (W2 w b1 b2) 11 1++(AN w b1 b2::[Bp w b1 b2]))))))) (Ax w b1 b2 l)) Q X p ⟨h,g,d,tk,os⟩:=by
 induction aq with | @i kf q3 e0=>?_
 refine cO hg al ?_
 refine am.sub [2] rfl (by decide) rfl fun h1 aj=>?_
 refine LB p (Nat.le_refl _) fun p1 h2 g2 ao aa=>?_
 intro p2
 refine N4 (hi:=j) (lo:=j+1) (he:=0) (le:=0) (j:=j+6) hF hB hx hn hU hM hE hL LN.i ao (aj.join' [2] (by decide) rfl aa rfl) ?_
 intro cd ns j p h g tk hs he ls le hg al
 exact nx cd _ _ _ j p h g tk hg (al.pick [0,1,2,3,4] 5 (by decide) (by decide) (Nat.le_refl _) rfl)
theorem N6 (hF:∀ k,B.F k=T.F k) (hB:∀ k,PM (B.F k)) (hx:T.mx 5=4) (hn:T.mn 5=1) {q6 q7:Value}(aq:LN (W2 w b1 b2) pl t me un (t2 q6 q7) ns) (hg:AllBare g) (al:ag (Ae w b1 b2) h₀ 5 [(1108,BM aX se),(975,(BL w b1 b2)),A6 l ns,(l+1110,eu (some (Aa bg))),(l+1111,eu none),(t+1109,Be T te),B9 T,BA T,BJ T,BN T,(bg+1109,Bq B be),(B.d0+1109,av),BP B,(B.d1+1109,av),BR B,(B.d2+1109,av),BS B,(B.d3+1109,av),BU B,Aj du,Bm un du,Aj dm,Bm me dm] (j+1109) h)
  (nx:∀ cd ns c1 c2 j p h g tk,AllBare g->ag (Ae w b1 b2) h₀ 5 (B8 aX se cd l ns c1 c2) (j+1109) h->Q (.ret (.bool true)) p ⟨h,g,d,tk,os⟩):wp (Bf w b1 b2) (By w b1 b2 l p4) (execs (ca (W2 w b1 b2) 5 1++(ca (W2 w b1 b2) 6 1++(ai (W2 w b1 b2) 1107 7::(Br (W2 w b1 b2)::(BH (W2 w b1 b2)::(AS (W2 w b1 b2)::(ca (W2 w b1 b2) 11 1++(AN w b1 b2::[Bp w b1 b2])))))))) (Ax w b1 b2 l)) Q X p ⟨h,g,d,tk,os⟩:=by
 induction aq with | @i kf q3 e0=>?_
 refine cO hg al ?_
 refine am.sub [2,3,4,10,19,20,21,22,11,12,13,14,15,16,17,18] rfl (by decide) rfl fun h1 aj=>?_
 refine LA (be:=be) hB p (Nat.le_refl _) fun x _ p1 h2 g2 ao aa=>?_
 intro p2
 obtain ⟨q8,q9,q10,hN⟩:=x.hN
 exact N5 hF hB hx hn x.hu x.hm x.he x.hf hN ao (aj.join' [2,3,4,10,19,20,21,22,11,12,13,14,15,16,17,18] (by decide) rfl aa rfl) nx
theorem N7 (hF:∀ k,B.F k=T.F k) (hB:∀ k,PM (B.F k)) (hx:T.mx 5=4) (hn:T.mn 5=1) {q3:Value}(hg:AllBare g) (al:ag (Ae w b1 b2) h₀ 5 [(1108,BM aX se),(975,(BL w b1 b2)),AX l w b1 b2 k1 k2 t pl k3 q3 e0,(l+1110,eu (some (Aa bg))),(l+1111,eu none),(t+1109,Be T te),B9 T,BA T,BJ T,BN T,(bg+1109,Bq B be),(B.d0+1109,av),BP B,(B.d1+1109,av),BR B,(B.d2+1109,av),BS B,(B.d3+1109,av),BU B] (j+1109) h)
  (nx:∀ cd ns c1 c2 j p h g tk,AllBare g->ag (Ae w b1 b2) h₀ 5 (B8 aX se cd l ns c1 c2) (j+1109) h->Q (.ret (.bool true)) p ⟨h,g,d,tk,os⟩):wp (Bf w b1 b2) (By w b1 b2 l p4) (execs (ca (W2 w b1 b2) 3 1++(ca (W2 w b1 b2) 4 1++(ca (W2 w b1 b2) 5 1++(ca (W2 w b1 b2) 6 1++(ai (W2 w b1 b2) 1107 7::(Br (W2 w b1 b2)::(BH (W2 w b1 b2)::(AS (W2 w b1 b2)::(ca (W2 w b1 b2) 11 1++(AN w b1 b2::[Bp w b1 b2])))))))))) (Ax w b1 b2 l)) Q X p ⟨h,g,d,tk,os⟩:=by
 refine cO hg al ?_
 refine am.sub [2] rfl (by decide) rfl fun h1 aj=>?_
 refine JU p (Nat.le_refl _) fun p1 h2 g2 ao aa=>?_
 intro p2
 have aS:=aj.join' [2] (by decide) rfl aa rfl
 refine cO ao aS ?_
 refine am.sub [2] rfl (by decide) rfl fun h3 bc=>?_
 refine JV (j:=j+24) (un:=j+1) (me:=j+11) p2 (Nat.le_refl _) fun p3 h5 g5 fY bl=>?_
 intro p6
 exact N6 (du:=j) (un:=j+1) (dm:=j+10) (me:=j+11) (j:=j+48) hF hB hx hn LN.i fY (bc.join' [2] (by decide) rfl bl rfl) nx
theorem N8 (hK:∀ k,PM (T.F k)) (hx:T.mx 5=4) (hn:T.mn 5=1) {q3:Value}(hg:AllBare g) (al:ag (Ae w b1 b2) h₀ 5 [(1108,BM aX se),(975,(BL w b1 b2)),AX l w b1 b2 k1 k2 t pl k3 q3 e0,(l+1110,eu none),(l+1111,eu none),(t+1109,Be T te),B9 T,BA T,BJ T,BN T] (j+1109) h)
  (nx:∀ cd ns c1 c2 j p h g tk,AllBare g->ag (Ae w b1 b2) h₀ 5 (B8 aX se cd l ns c1 c2) (j+1109) h->Q (.ret (.bool true)) p ⟨h,g,d,tk,os⟩):wp (Bf w b1 b2) (By w b1 b2 l p4) (execs (ca (W2 w b1 b2) 2 1++(ca (W2 w b1 b2) 3 1++(ca (W2 w b1 b2) 4 1++(ca (W2 w b1 b2) 5 1++(ca (W2 w b1 b2) 6 1++(ai (W2 w b1 b2) 1107 7::(Br (W2 w b1 b2)::(BH (W2 w b1 b2)::(AS (W2 w b1 b2)::(ca (W2 w b1 b2) 11 1++(AN w b1 b2::[Bp w b1 b2]))))))))))) (Ax w b1 b2 l)) Q X p ⟨h,g,d,tk,os⟩:=by
 refine cO hg al ?_
 refine am.sub [2,3,4,5,6,7,8,9] rfl (by decide) rfl fun h1 aj=>?_
 have l8:∀ k,(T.F k).length<=8:=fun k=>Nat.le_trans (hK k).1.len (by decide)
 refine JT (t:=t) (te:=te) T.h0 T.h1 T.h2 T.h3 (l8 0) (l8 1) (l8 2) (l8 3) p (Nat.le_refl _) fun x1 _ x2 _ x3 _ x4 _ p1 h2 g2 ao aa=>?_
 intro p2
 have e0:cj [] T.F0=T.F0:=iP (hK 0).1.1
 have e1:cj [] T.F1=T.F1:=iP (hK 1).1.1
 have e2:cj [] T.F2=T.F2:=iP (hK 2).1.1
 have e3:cj [] T.F3=T.F3:=iP (hK 3).1.1
 have hF:∀ k,(⟨j+3,cb.j x1,cb.j x2,cb.j x3,j+4,cb.j x1+1,cb.j x2+1,cb.j x3+1,cb.es x1,cb.es x2,cb.es x3,cb.es x4,cb.ep x1,cb.ep x2,cb.ep x3,cb.ep x4,cj [] T.F0,cj [] T.F1,cj [] T.F2,cj [] T.F3,cb.hT x1,cb.hT x2,cb.hT x3,cb.hT x4⟩:BG).F k=T.F k:=fun k=>match k with
  | 0=>e0
  | 1=>e1
  | 2=>e2
  | _+3=>e3
 exact N7 (bg:=j+1) (be:=4) (j:=cb.j x4+2) hF (fun k=>by rw [hF];exact hK k) hx hn ao (aj.join' [2,3,4,5,6,7,8,9] (by decide) rfl aa rfl) nx
theorem v6:dQ (eW (W2 w b1 b2) 1107)=ca (W2 w b1 b2) 0 2++(ca (W2 w b1 b2) 2 1++(ca (W2 w b1 b2) 3 1++(ca (W2 w b1 b2) 4 1++(ca (W2 w b1 b2) 5 1++(ca (W2 w b1 b2) 6 1++(ai (W2 w b1 b2) 1107 7::(Br (W2 w b1 b2)::(BH (W2 w b1 b2)::(AS (W2 w b1 b2)::(ca (W2 w b1 b2) 11 1++(AN w b1 b2::[Bp w b1 b2]))))))))))):=by kernel_rfl
theorem N9 (hL:dQ (eW (W2 w b1 b2) 1107)=L) (ls:List (Int×Tok)) (eH:ls.length<=63) (hg:AllBare g) (al:ag (Ae w b1 b2) h₀ 5 [(1108,ac (ls.map cU).toArray se),(975,(BL w b1 b2)),(l+1109,aN [ak (W2 w b1 b2) aT k1 (.ref 1108)] e0),(l+1110,eu none),(l+1111,eu none)] (j+1109) h)
  (nx:∀ cd ns c1 c2 j p h g tk,AllBare g->ag (Ae w b1 b2) h₀ 5 [(1108,ac (ls.map cU).toArray se),(975,Ba cd),A6 l ns,(l+1110,c1),(l+1111,c2)] (j+1109) h->Q (.ret (.bool true)) p ⟨h,g,d,tk,os⟩):wp (Bf w b1 b2) ⟨fn (L,Ax w b1 b2 l),none,none,[(CC,p4)],none⟩ (execs L (Ax w b1 b2 l)) Q X p ⟨h,g,d,tk,os⟩:=by
 subst hL
 rw [show execs (dQ (eW (W2 w b1 b2) 1107))=_ from congrArg execs v6]
 refine (cO (Γ:=eK (W2 w b1 b2) l p4) hg al ?_:_)
 refine am.sub [0,2] rfl (by decide) rfl fun h1 aj=>?_
 refine JS (s:=0) ls eH p (Nat.le_refl _) fun x _ p1 h2 g2 ao aa=>?_
 intro p2
 have aS:=(aj.join' [0,2] (by decide) rfl aa rfl).pick [0,1,2,3,4,9,5,6,7,8] 5 (by decide) (by decide) (Nat.le_refl _) rfl
 obtain ⟨t0,t1,t2,t3⟩:=iC.of ls 0 iC.start
 have hK:∀ k,PM ((⟨j,j+1,j+2,j+3,gH.es0 x,gH.es1 x,gH.es2 x,gH.es3 x,gH.ep0 x,gH.ep1 x,gH.ep2 x,gH.ep3 x,(b4 ls 0 TI).a,(b4 ls 0 TI).b,(b4 ls 0 TI).c,(b4 ls 0 TI).d,gH.h0 x,gH.h1 x,gH.h2 x,gH.h3 x⟩:TG).F k):=fun k=>match k with
  | 0=>t0.pm (by decide)
  | 1=>t1.pm (by decide)
  | 2=>t2.pm (by decide)
  | _+3=>t3.pm (by decide)
 exact N8 (t:=j+4) (te:=0) (j:=gH.j x) hK (by show max (max (max (ct _ 5) (ct _ 5)) (ct _ 5)) (ct _ 5)=4;rw [t0.2,t1.2,t2.2,t3.2];decide) (by show min (min (min (ct _ 5) (ct _ 5)) (ct _ 5)) (ct _ 5)=1;rw [t0.2,t1.2,t2.2,t3.2];decide) ao aS nx
end
end
structure Oa where
 cd:Nat
 ns:Obj
 c1:Obj
 c2:Obj
 j:Nat
 tk:Nat
section
variable {d:Drawn}{os:OsState}{w:World}{b1 b2:Bool}
noncomputable def LC (l se k1 e0:Nat) (ls:List (Int×Tok)) (eH:ls.length<=63) (is:List Nat) (nd:is.Nodup) (hl:5=is.length):aL (E2 (W2 w b1 b2)) d os:=
 aL.sub Oa ⟨0,av,av,av,0,0⟩ (fn (dQ (eW (W2 w b1 b2) 1107),ab (W2 w b1 b2) l)) [] is [(1108,ac (ls.map cU).toArray se),(975,jH (W2 w b1 b2)),(l+1109,aN [ak (W2 w b1 b2) aT k1 (.ref 1108)] e0),(l+1110,eu none),(l+1111,eu none)]
  nd hl (fun _=>.ret (.bool true)) (fun x=>[(1108,ac (ls.map cU).toArray se),(975,cJ (x.cd+1109)),(l+1109,x.ns),(l+1110,x.c1),(l+1111,x.c2)]) (fun x=>x.j+1109) (fun x=>x.tk) (fun _=>True) (fun x=>by rw [<- hl];rfl) (by
   intro Γ h g p n tk Q aV hc hg hr k
   refine I1 aV hc fun p4=>?_
   obtain ⟨j,rfl⟩:=dn (i:=2) hr rfl
   refine rm (env:=ab (W2 w b1 b2) l) rfl ?_
   generalize hb:dQ (eW (W2 w b1 b2) 1107)=L
   exact N9 hb ls eH hg (hl▸hr) fun cd ns c1 c2 j p h g tk hg al=>k ⟨cd,ns,c1,c2,j,tk⟩ trivial h g hg (hl▸al))
end
theorem LD {d:Drawn}{os:OsState}{w:World}{b1 b2:Bool}{j tk:Nat}{se:Nat}(ls:List (Int×Tok)) (eH:ls.length<=63):
  Qb b1 b2 d os fun b1 b2=>⟨Ae w b1 b2,2,uk,ip (nm [108,97,119]) [.ref 1108],[(1108,ac (ls.map cU).toArray se),(975,BL w b1 b2)],j+1109,tk,.c (LC j se tk 1 ls eH [0,1,2,3,4] (by decide) rfl) fun x1=>.e (.e (.done (.ret (.bool true))) [(1108,⟨(.type "list"),none,.seq ((List.map cU ls).toArray) se,#[]⟩),(975,(AA x1.cd))] ((x1.j)+1109) ((x1.6)))⟩:=bU 76 [0,0,0,0,3,3,0,1] [[]] [] (by kernel_rfl)
section
open PySem PySem.W PySem.W.X PySem.Calls PyProof.Rows
theorem qU {l:OpenLaw}{q:Program}{i9:List Str}{Yf:Shared->Heap×Nat}{Ya:World->Heap×Nat}{N:Nat}{d:DefRec}{rr:List (Str×Expr)}
  (left:LeftO l.prog q i9 (fun _=>true) Yf Ya N) (hw:l.writes=false) (k1:l.row.wellSaid=true)
  (Dq:defOf q l.name=some (d,rr)) (hp:l.prog.theDef l.name=some (d.params,d.body,d.scope)) (hk:kwWritten? d.params.kwonlyargs d.params.kw_defaults=some rr)
  (ok:(chainsOk q&&opensWell l.prog&&(frees l.row.toRowW&&l.row.within.isEmpty))=true) (hb:l.prog.bare) (Fp:l.row.toRowW.promised)
  (call:∀ (w:World) (s₀ bF:Shared) (args:List WData) (vs:List Value) (as:List Addr),Yf s₀=Ya w->l.row.claim.pre args=true->WData.layableAll args=true->Laid [] w s₀ bF args vs as->
   wp (model l.prog w) uk (ip l.name vs) (finPost (model l.prog w) uk (ly bF)) (fun e _ s'=>ly bF (.error e) s') default bF):l.row.Holds:=by
 refine ⟨k1,Fp,?_⟩
 obtain ⟨ok,k5⟩:=Bool.and_eq_true_iff.mp ok
 obtain ⟨Ob,o1⟩:=Bool.and_eq_true_iff.mp ok
 obtain ⟨k5,k6⟩:=Bool.and_eq_true_iff.mp k5
 obtain ⟨IC,hu,ha,ID,hm⟩:=frees_parts k5
 have hi:=ident_freeW hu ha ID
 have B:=fun w=>left.behind (XP:=fun _ _=>True) (fun _ _=>trivial) Ob w
 refine ⟨⟨hb,o1,rfl⟩,Fp.witness,fun w=>⟨(B w).1,fun s' cB=>?_⟩⟩
 obtain ⟨s₀,hf,Oc,s,hT,hz,oK,hg,G,y⟩:=(B w).2 s' cB
 have oK:s.gens=#[]:=Array.eq_empty_of_size_eq_zero (beq_iff_eq.mp oK)
 refine ⟨s₀,hf,Oc,s,hT,fun n hn=>?_,fun x hx=>(nomatch hx),fun x hx=>(nomatch hx),?_⟩
 ·obtain rfl:n=l.name:=by simpa [OpenLaw.row] using hn
  exact pinned_of_view hg G Dq hp hk
 intro args hJ mZ ord Gq
 obtain ⟨⟨vs,bF⟩,mD⟩:=Option.isSome_iff_exists.mp (layAllW_isSome (P:=w.params) (ord:=ord) G.has args l.row.args s (pre_splitW hJ).1)
 have keeps:=layAllW_keeps _ _ _ mD
 have ol:=layAllW_rest _ _ _ mD
 obtain ⟨as,GA,Hw,LE⟩:=reads_layAllW Gq _ _ _ mD mZ bF.heap (fun _ _ e=>e)
 have L:Laid [] w s bF args vs as:=⟨⟨ord,Gq,mD⟩,GA,Hw,LE,keeps,ol.1.trans oK,ol.2.2.1⟩
 have c:=call w s bF args vs as y hJ mZ L
 obtain ⟨k,r,σ,LF,Fq,LG,Od,hR⟩:=wp_halts_full (M:=model l.prog w) (R:=ly bF) (Shared.asleep_of_life ol.2.2.2 hz)
  (Sem.wp_mono _ _ _ (fun fin p s' h'=>finPost_mono (fun r s' g=>⟨g,leftWithCleanup_false_of_bare g.bare⟩) h') (fun e p s' h'=>⟨h',leftWithCleanup_false_of_bare h'.bare⟩) _ _ c)
 obtain ⟨eh,_,_,eo,_⟩:=Shared.forget_eq Od
 have g:GoodWG l.row.claim (classAt s.heap) (ExcName.means s.heap) args bF r σ:=
  ⟨.inl ⟨.bool true,.bool true,[],hR.val,fun _=>rfl,.bool _,by with_unfolding_all rfl,fun _=>⟨List.nodup_nil,fun a ha=>(nomatch ha)⟩⟩,hR.old,hR.os,hR.bare⟩
 have z:=g.laid (w:=w) (s₀:=s) (vs:=vs) (as:=as) IC (List.isEmpty_iff.mp k6) hi L
 have IE:=z.1.congr eh
 have IF:LF.heap.life=s.heap.life:=(runN_life _ _ _ LG).trans ol.2.2.2
 refine ⟨vs,bF,mD,k,_,LF,Fq,?_,(fun _ i x hx=>by rw [oK] at hx;simp at hx),fun q=>(by rw [show l.writes=true from q] at hw;cases hw),by rw [IF],Shared.rest_eq (eo.trans z.2.1)⟩
 rcases IE with ⟨v,e,d1,d2,d3,d4,d5⟩ | ⟨e,ob,cls,e',d1,d2,d3,d4,d5⟩
 ·exact .inl ⟨v,by rw [e];rfl,d1,d2,d3,fun b o y _=>d4 b o y,d5⟩
 ·exact .inr ⟨e,ob,cls,by rw [e'];rfl,d1,d2,d3,d4,fun b o y _=>d5 b o y⟩
theorem Dr {l:OpenLaw}{q:Program}{i9:List Str}{Yf:Shared->Heap×Nat}{Ya:World->Heap×Nat}{N:Nat}{d:DefRec}{rr:List (Str×Expr)}{T:Params->BT}{n0 tk0:Nat}{life:Life}{mu:List Nat}{mo:Params->Mm}
  (left:LeftO l.prog q i9 (fun _=>true) Yf Ya N) (hw:l.writes=false) (k1:l.row.wellSaid=true)
  (Dq:defOf q l.name=some (d,rr)) (hp:l.prog.theDef l.name=some (d.params,d.body,d.scope)) (hk:kwWritten? d.params.kwonlyargs d.params.kw_defaults=some rr)
  (ok:(chainsOk q&&opensWell l.prog&&(frees l.row.toRowW&&l.row.within.isEmpty))=true) (hb:l.prog.bare) (Fp:l.row.toRowW.promised)
  (hm:l.most=some 63) (lz:l.bound=none) (hY:∀ s w,Yf s=Ya w->s.heap=absHeap (T w.params) n0 life/\s.toks=tk0) (wn:sysModules < n0)
  (hT:∀ P a,n0<=a->(T P).get a=none) (IG:∀ P a o,(T P).get a=some o->o.isFreed=false)
  (LH:∀ P x,x∈mo P->(T P).get x.1=some x.2/\gL x.1 mu=true) (ID:∀ P,nH (n0::(mo P).map (·.1))=true)
  (go:∀ (w:World) (aX:List (Int×Tok)) (h:Heap) (dr:Drawn) (tk:Nat) (os:OsState),aX.length<=63->tk0<=tk->(∀ a o,(T w.params).get a=some o->h.get? a=some o)->h.get? n0=some (fh (aX.map cU))->
   am ⟨l.prog,w,T w.params,mu,AllBare,true,none,oS⟩ h (mo w.params).length.succ (rc h os) dr os ⟨uk,default,[],ip l.name [.ref n0],(n0,fh (aX.map cU))::mo w.params,n0+1,tk⟩):l.row.Holds:=by
 refine qU left hw k1 Dq hp hk ok hb Fp fun w s₀ bF args vs as y hJ mZ L=>?_
 obtain ⟨hh,Oe⟩:=hY s₀ w y
 have aG:s₀.heap.objs.size=n0:=by rw [hh,absHeap_size]
 obtain ⟨aX,eH,oP,vJ,Ds,LI⟩:=oV hm lz hJ mZ L (by rw [aG];exact wn)
 rw [aG] at oP vJ Ds
 have base:∀ a o,(T w.params).get a=some o->bF.heap.get? a=some o:=fun a o e=>by
  refine L.keeps a o ?_
  have:s₀.heap.objs[a]?=some o:=by
   rw [hh,absHeap_at,e]
   by_cases h:a < n0
   ·rw [if_pos h];rfl
   ·rw [hT _ a (by lia)] at e;cases e
  unfold Heap.get?
  simp only [this]
  have f:=IG _ _ _ e
  obtain ⟨c,d,dt,sl⟩:=o
  cases dt<;>first | rfl | cases f
 have ht:tk0<=bF.toks:=Oe▸LI
 have al:ag ⟨l.prog,w,T w.params,mu,AllBare,true,none,oS⟩ bF.heap (mo w.params).length.succ ((n0,fh (aX.map cU))::mo w.params) (n0+1) bF.heap:=by
  refine ⟨Ds,fun a o e _=>base a o e,fun i a o e=>?_,m3 _ (ID _),fun i a o e=>?_,fun b o e _=>e,by rw [Ds];exact Nat.le_refl _,fun i a o hi e=>?_,by rw [lD];exact Nat.le_refl _,fun a ha=>hT _ a (by lia)⟩
  ·rcases List.mem_cons.mp (gu _ _ _ e) with e | e
   ·cases e;exact vJ
   ·exact base a o (LH _ _ e).1
  ·rcases List.mem_cons.mp (gu _ _ _ e) with e | e
   ·cases e;exact .inr (hT _ _ (Nat.le_refl _))
   ·exact .inl (LH _ _ e).2
  ·have:=gr _ _ _ e
   rw [lD] at this
   have e2:((n0,fh (aX.map cU))::mo w.params).length=(mo w.params).length.succ:=rfl
   lia
 have z:=go w aX bF.heap bF.drawn bF.toks bF.os eH ht base vJ bF.heap #[] (.of_eq rfl) al
 subst oP
 have hg:bF.gens=#[]:=L.gens
 rw [dO] at z
 obtain ⟨h1,g1,d1,t1,o1⟩:=bF
 cases (show g1=#[] from hg)
 exact Sem.wp_mono _ _ _ (fun fin p s' h'=>finPost_mono (fun r s' g=>⟨g.val,g.old,g.os,g.bare⟩) h') (fun e p s' g=>⟨g.val,g.old,g.os,g.bare⟩) _ _ z
end
theorem oM (f:Nat->Obj) (n:Nat):∀ (d a b i:Nat) (o:Obj),(tr f n d a b).get i=some o->b+a * i < n/\o=f (b+a * i)
 | 0,_,_,_,_,h=>nomatch h
 | d+1,a,b,i,o,h0=>by
  have h:(@Bool.rec (fun _=>BT) .nil (.node (f b) (tr f n d (2 * a) (a+b)) (tr f n d (2 * a) (2 * a+b))) (Nat.blt b n)).get i=some o:=h0
  clear h0
  cases q:Nat.blt b n with
  | false=>rw [q] at h;cases h
  | true=>
   rw [q] at h
   have hb:b < n:=by simpa [Nat.blt_eq] using q
   rw [BT.get_node] at h
   by_cases e:i=0
   ·rw [if_pos e] at h;subst e;exact ⟨by simpa using hb,by rw [<- Option.some.inj h];simp⟩
   ·rw [if_neg e] at h
    split at h
    ·next e1=>
     obtain ⟨h1,h2⟩:=oM f n d _ _ _ _ h
     have e:a+b+2 * a * (i / 2)=b+a * i:=by
      obtain ⟨k,hk⟩:∃ k,i=2 * k+1:=⟨i / 2,by lia⟩
      have:i / 2=k:=by lia
      rw [this,hk,Nat.mul_add,Nat.mul_one,Nat.mul_comm 2 a,Nat.mul_assoc];lia
     rw [e] at h1 h2;exact ⟨h1,h2⟩
    ·next e1=>
     obtain ⟨h1,h2⟩:=oM f n d _ _ _ _ h
     have e:2 * a+b+2 * a * (i / 2 - 1)=b+a * i:=by
      obtain ⟨k,hk⟩:∃ k,i=2 * k+2:=⟨i / 2 - 1,by lia⟩
      have:i / 2 - 1=k:=by lia
      rw [this,hk,Nat.mul_add,Nat.mul_comm 2 a,Nat.mul_assoc];lia
     rw [e] at h1 h2;exact ⟨h1,h2⟩
theorem qV {P:Params}{a:Nat}{o:Obj}(h:(gb P).get a=some o):a < 1108/\o=tD P a:=by
 have z:=oM (tD P) 1108 12 1 0 a o h
 rw [Nat.zero_add,Nat.one_mul] at z
 exact z
noncomputable def Dt (f:Nat->Bool):Nat->Bool:=@Nat.rec (fun _=>Bool) true fun k ih=>@Bool.rec (fun _=>Bool) false ih (f k)
theorem qW {f:Nat->Bool}:∀ {n:Nat},Dt f n=true->∀ k,k < n->f k=true
 | 0,_,k,hk=>absurd hk (Nat.not_lt_zero _)
 | n+1,h,k,hk=>by
  have h:@Bool.rec (fun _=>Bool) false (Dt f n) (f n)=true:=h
  cases q:f n with
  | false=>rw [q] at h;cases h
  | true=>
   rw [q] at h
   rcases Nat.lt_succ_iff_lt_or_eq.mp hk with hk | rfl
   ·exact qW h k hk
   ·exact q
theorem II (P:Params):Dt (fun k=>!(tD P k).isFreed) 1108=true:=by kernel_rfl
theorem Du (P:Params):(gb P).get 975=some ⟨.none,none,.fields #[],#[]⟩:=by kernel_rfl
theorem IJ (P:Params):(gb P).get 979=some yL:=by kernel_rfl
theorem Of (P:Params):∀ x,x∈[(975,((gb P).get 975).getD default)]->(gb P).get x.1=some x.2/\gL x.1 [975]=true:=by
 intro x hx
 rw [List.mem_singleton] at hx;subst hx
 rw [Du];exact ⟨rfl,rfl⟩
theorem IK:PySem.Challenge.rw_dn0006_02.name=nm [108,97,119]:=by kernel_rfl
theorem LJ {w:World}{h h':Heap}{n cd:Nat}(base:∀ a o,(gb w.params).get a=some o->h.get? a=some o) {sc:Obj}(hs:h.get? 1108=some sc) (r:ag (E2 w) h 2 [(1108,sc),(975,cJ cd)] n h'):OldK h h':=by
 have LK:=base 975 _ (Du _)
 have k:∀ b o,h.get? b=some o->b≠975->h'.get? b=some o:=fun b o e hb=>by
  by_cases h8:b=1108
  ·subst h8
   rw [hs] at e;cases e
   exact r.own 0 _ _ rfl
  ·refine r.keep b o e fun i a o' hi q=>?_
   match i,hi,q with
   | 0,_,q=>cases q;exact fun x=>h8 x.symm
   | 1,_,q=>cases q;exact fun x=>hb x.symm
 refine ⟨fun b o e=>?_,fun b o e=>?_⟩
 ·by_cases hb:b=975
  ·subst hb
   rw [LK] at e;cases e
   exact .inr (.inl ⟨⟨979,yL,_,base 979 _ (IJ _),rfl,rfl,rfl⟩,rfl,#[],#[.int 578 0,.int 19 0,.ref cd],rfl,r.own 1 _ _ rfl⟩)
  ·exact .inl (k b o e hb)
 ·by_cases hb:b=975
  ·subst hb;exact ⟨_,r.own 1 _ _ rfl⟩
  ·exact ⟨o,k b o e hb⟩
theorem Og:PySem.Challenge.rw_dn0006_02.row.wellSaid=true:=by kernel_rfl
theorem Oh:PySem.Challenge.rw_dn0006_02.wellSaid=true:=by
 unfold OpenLaw.wellSaid
 rw [Og]
 kernel_rfl
theorem Oi (w:World) (aX:List (Int×Tok)) (h:Heap) (dr:Drawn) (tk:Nat) (os:OsState) (eH:aX.length<=63) (base:∀ a o,(gb w.params).get a=some o->h.get? a=some o) (hs:h.get? 1108=some (fh (aX.map cU))):
  am (E2 w) h 2 (rc h os) dr os ⟨uk,default,[],ip (nm [108,97,119]) [.ref 1108],[(1108,fh (aX.map cU)),(975,((gb w.params).get 975).getD default)],1109,tk⟩:=by
 generalize oT:w.params.followText "special-get-raises"=b1
 generalize Gx:w.params.followText "comprehension-iter-twice"=b2
 have hw:W2 w b1 b2=w:=by subst oT Gx;exact yW w
 have z:∀ v,v=W2 w b1 b2->(∀ a o,(gb v.params).get a=some o->h.get? a=some o)->am (E2 v) h 2 (rc h os) dr os ⟨uk,default,[],ip (nm [108,97,119]) [.ref 1108],[(1108,fh (aX.map cU)),(975,((gb v.params).get 975).getD default)],1109,tk⟩:=by
  rintro v rfl base
  intro h1 g1 zp dD
  refine LD (j:=0) (se:=0) (ls:=aX) eH default (Nat.le_refl _) (fun x _ p h2 g2 ao al=>?_) h1 g1 zp dD
  exact ⟨rfl,LJ base hs al,rfl,ao⟩
 exact z w hw.symm base
end Mine
open Mine
theorem PySem.Challenge.cw_dn0006_02_holds : PySem.Challenge.rw_dn0006_02.Holds := by
 w_on
 refine holds_law Oh fun Om=>?_
 refine Dr (T:=gb) (n0:=1108) (tk0:=1777) (life:=life) (mu:=[975]) (mo:=fun P=>[(975,((gb P).get 975).getD default)]) GX (by rfl) (by assumption) (by rfl) (by rfl) (by rfl) (by decide+kernel) ⟨rfl,rfl,rfl,rfl,rfl,by decide+kernel⟩ ?hw (by rfl) (by rfl) (fun s w e=>⟨congrArg Prod.fst e,congrArg Prod.snd e⟩) (by decide) ?h1 ?h2 Of (fun _=>rfl) ?go
 case hw=>w_witness2
 case h1=>
  intro P a ha
  cases q:(gb P).get a with
  | none=>rfl
  | some o=>exact absurd (qV q).1 (by lia)
 case h2=>
  intro P a o q
  obtain ⟨h1,rfl⟩:=qV q
  have:=qW (II P) a h1
  simpa using this
 case go=>
  intro w aX h dr tk os eH _ base hs
  rw [IK]
  exact Oi w aX h dr tk os eH base hs
