import PyProof.Rows.All
import Wide.All
import OpenK.AllK
import Wide.FinOn
import OpenK.ZHead
import Lean
import PySem.Challenge.RW_dn0006_04
set_option Elab.async false
set_option maxRecDepth 100000
set_option linter.all false
set_option maxHeartbeats 0
open PySem PySem.W PyProof.Rows
open Sem (wp finPost)
namespace Mine
set_option genInjectivity false
set_option genSizeOf false
section
variable {E X:Value->Pos->Shared->Prop}{Q:Flow->Pos->Shared->Prop}{a b:Bool}{apos p p0 p1 pos2:Pos}{body:List Stmt}{oc of:Obj}{tf:Tok}{vs:Array Value}{w:World}{Γ:Ctx}
noncomputable def fG (env : Env) (first : Str) (p1 : Pos) : Sem Value := do
  standAt p1
  let g <- loadName env "super"
  let cls <- loadName env "__class__"
  let self <- loadName env first
  let ru <- isType cls
  if g == .type "super" && ru then call g [cls, self] else holding [cls, self] (call g [])
theorem o5 {M:Model}{env:Env}{Q:List Env->Pos->Shared->Prop}{s:Shared}(aF:Γ.code=.func body env) (h:Q [] p s):wp M Γ comprehensionsAround Q E p s:=by
 unfold comprehensionsAround callersCodes
 rw [Sem.wp_bind',Sem.wp_bind']
 show wp M Γ (.stack .pure) _ _ p s
 rw [Sem.wp_stack,Sem.wp_pure,aF]
 dsimp only
 have e:pastTheWaiting ((.func body env,p)::Γ.below)=(.func body env,p)::pastTheWaiting.go false (some (.func body env)) Γ.below:=rfl
 rw [e]
 split
 ·rename_i hc
  exact absurd (show (some env.frame != some env.frame)=true from hc) (by simp)
 ·exact h
theorem uo {M:Model}{env:Env}{Cv:Str}{Di:Sem Value}{f cc:Addr}{fd:FuncData}{ar:Arg}{file:Str}
  {Q:Value->Pos->Shared->Prop}{s:Shared}(aF:Γ.code=.func body env)
  (Dj:env.kindOf "super"=some .globalImplicit) (Dk:env.kindOf "__class__"=some .free) (rv:(Cv==("__class__":Str))=false) (Dl:env.func=some f) (hf:s.heap.get? f=some of) (vW:of.data=.func fd)
  (hp:(fd.params.posonlyargs++fd.params.args).head?=some ar) (vX:env.code=.ref cc) (vY:s.heap.get? cc=some oc) (vZ:oc.data=.fields vs) (o6:vs[2]?=some (.str file tf))
  (lH:((M.prog.main.file:Str)==file)=true) (v0:(M.prog.main.scope.names.lookup ("super":Str)).isSome=false)
  (h:wp M Γ (fG env ar.arg p1) Q E p s):
  wp M Γ (attributeBase (.Call (.Name "super" p0) [] [] p1) Cv env Di) Q E p s:=by
 unfold attributeBase
 simp only [bne_self_eq_false,rv,Dj,Dk,Dl,vX,Bool.or_false,Bool.or_self,Bool.false_eq_true,if_false,Option.isSome_some,if_true,pure_bind]
 unfold funcData
 rw [Sem.wp_bind',Sem.wp_bind',Sem.wp_load_of M Γ _ p s hf]
 simp only [vW,Sem.wp_pure',hp]
 rw [Sem.wp_bind']
 show wp M Γ (.ask .pure) _ _ p s
 rw [Sem.wp_ask,Sem.wp_pure]
 rw [Sem.wp_bind']
 refine (wp_field_iff Γ _ _ _ _ _ _).mpr ⟨cc,oc,vs,_,rfl,vY,vZ,o6,?_⟩
 dsimp only
 simp only [lH,v0,if_true,Bool.false_eq_true,if_false]
 unfold fG at h
 simp only [Sem.wp_bind',Sem.wp_cmd_rule,Sem.wp_cmd_standAt] at h ⊢
 refine Sem.wp_mono M Γ _ (fun g p' s' h=>?_) (fun _ _ _ h=>h) _ _ h
 refine Sem.wp_mono M Γ _ (fun cls p' s' h=>?_) (fun _ _ _ h=>h) _ _ h
 exact o5 aF h
noncomputable def gH (env : Env) (first : Str) (p1 : Pos) (name : Str) (o : Expr) (apos pos : Pos) (args : List Expr) (kws : List Keyword) (pos2 : Pos) : Sem Flow := do
  standAt pos2
  let v <- (do
    let ov <- fG env first p1
    standAt apos.atName
    methodCall o name apos pos env ov (args.length + kws.length) (backTo pos (starEach args env)) (backToKw pos (keywordEach kws env)))
  dropValue (.Call (.Attribute o name apos) args kws pos) pos2 v
theorem m6 {prog : Program} {env : Env} {name : Str} {pos : Pos} {args : List Expr} {kws : List Keyword} {f cc : Addr} {fd : FuncData} {ar : Arg} {file : Str}
 {s : Shared}
    (aF : Γ.code = .func body env) (hi : interactive env = false)
    (Dj : env.kindOf "super" = some .globalImplicit) (Dk : env.kindOf "__class__" = some .free) (rv : (name == ("__class__" : Str)) = false) (Dl : env.func = some f) (hf : s.heap.get? f = some of) (vW : of.data = .func fd)
    (hp : (fd.params.posonlyargs ++ fd.params.args).head? = some ar) (vX : env.code = .ref cc) (vY : s.heap.get? cc = some oc) (vZ : oc.data = .fields vs) (o6 : vs[2]? = some (.str file tf))
    (lH : ((prog.main.file : Str) == file) = true) (v0 : (prog.main.scope.names.lookup ("super" : Str)).isSome = false)
    (h : wp (model prog w) Γ (gH env ar.arg p1 name (.Call (.Name "super" p0) [] [] p1) apos pos args kws pos2) Q E p s) :
    wp (model prog w) Γ (exec (.Expr (.Call (.Attribute (.Call (.Name "super" p0) [] [] p1) name apos) args kws pos) pos2) env) Q E p s := by
  have e : exec (.Expr (.Call (.Attribute (.Call (.Name "super" p0) [] [] p1) name apos) args kws pos) pos2) env = (do
          standAt pos2
          if interactive env then printExpr (eval (.Call (.Attribute (.Call (.Name "super" p0) [] [] p1) name apos) args kws pos) env)
          else do
            let v <- (do
              let ov <- attributeBase (.Call (.Name "super" p0) [] [] p1) name env (eval (.Call (.Name "super" p0) [] [] p1) env)
              standAt apos.atName
              methodCall (.Call (.Name "super" p0) [] [] p1) name apos pos env ov (args.length + kws.length) (backTo pos (starEach args env)) (backToKw pos (keywordEach kws env)))
            dropValue (.Call (.Attribute (.Call (.Name "super" p0) [] [] p1) name apos) args kws pos) pos2 v : Sem Flow) := rfl
  rw [e, hi]
  simp only [gH, Bool.false_eq_true, if_false, Sem.wp_bind', Sem.wp_cmd_standAt] at h ⊢
  exact uo aF Dj Dk rv Dl hf vW hp vX vY vZ o6 lH v0 h
noncomputable def lI:Str:=⟨⟨[115,117,112,101,114]⟩⟩
noncomputable def lJ:Str:=⟨⟨[95,95,99,108,97,115,115,95,95]⟩⟩
theorem o7:Str.ofString "super"=lI:=by unfold lI;decide+kernel
theorem o8:Str.ofString "__class__"=lJ:=by unfold lJ;decide+kernel
noncomputable def v1 (o:Option NameKind):Bool:=match o with | some .globalImplicit=>true | _=>false
noncomputable def v2 (o:Option NameKind):Bool:=match o with | some .free=>true | _=>false
theorem v3 {o:Option NameKind}(h:v1 o=true):o=some .globalImplicit:=by unfold v1 at h;split at h<;>first | rfl | cases h
theorem v4 {o:Option NameKind}(h:v2 o=true):o=some .free:=by unfold v2 at h;split at h<;>first | rfl | cases h
noncomputable def lK (a b:Bool):Bool:=@Bool.rec (fun _=>Bool) false b a
noncomputable def lL (a:Bool):Bool:=@Bool.rec (fun _=>Bool) true false a
theorem gg (h:lK a b=true):a=true/\b=true:=by cases a<;>cases b<;>first | exact ⟨rfl,rfl⟩ | cases h
theorem iI (h:lL a=true):a=false:=by cases a<;>first | rfl | cases h
noncomputable def v5 (prog:Program) (env:Env) (id name file:Str):Bool:=
 lK (Fast.sEq id lI) (lK (lL (Fast.tw15112477048112897374 env)) (lK (v1 (Fast.tw4777696345729990297 env lI)) (lK (v2 (Fast.tw4777696345729990297 env lJ)) (lK (lL (Fast.sEq name lJ))
  (lK (Fast.sEq prog.main.file file) (lL (@List.lookup _ _ (@instBEqOfDecidableEq _ Fast.sDec) lI prog.main.scope.names).isSome))))))
noncomputable def ig (env:Env) (first:Str) (p1:Pos):Sem Value:=
 R.bindR (standAt p1) fun _=>R.bindR (Fast.tw8468629109055619292 env lI) fun g=>R.bindR (Fast.tw8468629109055619292 env lJ) fun cls=>R.bindR (Fast.tw8468629109055619292 env first) fun self=>
  R.bindR (Fast.tw10380811246957099773 cls) fun ru=>if (g==.type "super"&&ru)=true then Fast.tw11478286150595567475 g [cls,self] [] else Fast.tw17359229931016689406 [cls,self] (Fast.tw11478286150595567475 g [] [])
noncomputable def ij (env:Env) (first:Str) (p1:Pos) (name:Str) (o:Expr) (apos pos:Pos) (args:List Expr) (kws:List Keyword) (pos2:Pos):Sem Flow:=
 R.bindR (standAt pos2) fun _=>R.bindR (R.bindR (ig env first p1) fun ov=>R.bindR (standAt apos.atName) fun _=>
   Fast.tw13401596951702201221 o name apos pos env ov (args.length+kws.length) (Fast.tw4897270859577272712 pos (Fast.tw13897175071876407860 args env)) (Fast.tw621762911399731506 pos (Fast.tw11621922129505618389 kws env)))
   fun v=>Fast.tw12372662630863984472 (.Call (.Attribute o name apos) args kws pos) pos2 v
theorem lM:fG=ig:=by
 funext env first p1
 unfold fG ig
 rw [<- R.bindR_eq,<- Fast.te8468629109055619292,<- Fast.te10380811246957099773,<- Fast.te11478286150595567475,<- Fast.te17359229931016689406,o7,o8]
 rfl
theorem lN:gH=ij:=by
 funext env first p1 name o apos pos args kws pos2
 unfold gH ij
 rw [<- R.bindR_eq,<- lM,<- Fast.te13401596951702201221,<- Fast.te4897270859577272712,<- Fast.te13897175071876407860,<- Fast.te621762911399731506,<- Fast.te11621922129505618389,<- Fast.te12372662630863984472]
 rfl
noncomputable def v6 (env:Env) (s:Stmt):Sem Flow:=Fast.tw12563942051412417395 [s] env
theorem s8 {M:Model}{env:Env}{s:Stmt}{st:Shared}(h:wp M Γ (v6 env s) Q E p st):wp M Γ (exec s env) Q E p st:=by
 unfold v6 at h
 rw [<- Fast.te12563942051412417395] at h
 have h:wp M Γ (exec s env>>=fun f=>match f with | .next=>execs [] env | f=>pure f) Q E p st:=h
 rw [Sem.wp_bind'] at h
 refine Sem.wp_mono M Γ _ (fun f p' s' h=>?_) (fun _ _ _ h=>h) _ _ h
 cases f<;>exact h
noncomputable def rx (S:Stmt->Sem Flow) (l:List Stmt):Sem Flow:=@List.rec Stmt (fun _=>Sem Flow) (.pure .next) (fun s _ ih=>R.bindR (S s) fun f=>match f with | .next=>ih | .brk=>.pure .brk | .cont=>.pure .cont | .ret v=>.pure (.ret v)) l
theorem nZ {M:Model}{Γ:Ctx}{env:Env}{S:Stmt->Sem Flow}(H:∀ s Q E p st,wp M Γ (S s) Q E p st->wp M Γ (exec s env) Q E p st):∀ (l:List Stmt) (Q:Flow->Pos->Shared->Prop) (E:Value->Pos->Shared->Prop) (p:Pos) (st:Shared),wp M Γ (rx S l) Q E p st->wp M Γ (execs l env) Q E p st
 | [],Q,E,p,st,h=>h
 | s::l,Q,E,p,st,h=>by
  have h:wp M Γ (R.bindR (S s) fun f=>match f with | .next=>rx S l | .brk=>.pure .brk | .cont=>.pure .cont | .ret v=>.pure (.ret v)) Q E p st:=h
  rw [<- R.bindR_eq] at h
  have h:wp M Γ (S s>>=fun f=>match f with | .next=>rx S l | .brk=>.pure .brk | .cont=>.pure .cont | .ret v=>.pure (.ret v)) Q E p st:=h
  show wp M Γ (exec s env>>=fun f=>match f with | .next=>execs l env | f=>pure f) Q E p st
  rw [Sem.wp_bind'] at h ⊢
  refine Sem.wp_mono M Γ _ (fun f p' s' h=>?_) (fun _ _ _ h=>h) _ _ (H _ _ _ _ _ h)
  cases f with
  | next=>exact nZ H l Q E p' s' h
  | brk=>exact h
  | cont=>exact h
  | ret v=>exact h
noncomputable def s9 (env:Env) (id:Str) (p0 p1:Pos) (name:Str) (apos pos:Pos) (args:List Expr) (kws:List Keyword) (pos2:Pos):Sem Flow:=match env.func with
 | some f=>match env.code with
  | .ref cc=>.load f none fun of=>.load cc none fun oc=>.ask fun st=>match of.data with
   | .func fd=>match (fd.params.posonlyargs++fd.params.args).head? with
    | some ar=>match oc.data with
     | .fields vs=>match (vs[2]?:Option Value) with
      | some (Value.str file _)=>match v5 st.program env id name file with
       | true=>ij env ar.arg p1 name (.Call (.Name id p0) [] [] p1) apos pos args kws pos2
       | false=>.unsupported "no"
      | _=>.unsupported "no"
     | _=>.unsupported "no"
    | none=>.unsupported "no"
   | _=>.unsupported "no"
  | _=>.unsupported "no"
 | none=>.unsupported "no"
theorem v7 {prog:Program}{env:Env}{id:Str}{name:Str}{pos:Pos}{args:List Expr}{kws:List Keyword}{s:Shared}
  (hc:Γ.code=.func body env) (h:wp (model prog w) Γ (s9 env id p0 p1 name apos pos args kws pos2) Q X p s):
  wp (model prog w) Γ (exec (.Expr (.Call (.Attribute (.Call (.Name id p0) [] [] p1) name apos) args kws pos) pos2) env) Q X p s:=by
 unfold s9 at h
 split at h
 case h_2=>exact h.elim
 rename_i f hf
 split at h
 case h_2=>exact h.elim
 rename_i cc vY
 obtain ⟨of,Iq,h⟩:=h
 obtain ⟨oc,vZ,h⟩:=h
 rw [Sem.wp_ask] at h
 split at h
 case h_2=>exact h.elim
 rename_i fd vW
 split at h
 case h_2=>exact h.elim
 rename_i ar har
 split at h
 case h_2=>exact h.elim
 rename_i vs o6
 split at h
 case h_2=>exact h.elim
 rename_i file tf lH
 split at h
 case h_2=>exact h.elim
 rename_i ok
 unfold v5 at ok
 obtain ⟨q1,ok⟩:=gg ok
 obtain ⟨q2,ok⟩:=gg ok
 obtain ⟨q3,ok⟩:=gg ok
 obtain ⟨q4,ok⟩:=gg ok
 obtain ⟨q5,ok⟩:=gg ok
 obtain ⟨q6,q7⟩:=gg ok
 obtain rfl:=Fast.sEq_iff.mp q1
 have q2:=iI q2
 rw [<- Fast.te15112477048112897374] at q2
 have q3:=v3 q3
 have q4:=v4 q4
 rw [<- Fast.te4777696345729990297] at q3 q4
 have q5:(name==lJ)=false:=by
  cases x:name==lJ with
  | false=>rfl
  | true=>
   have:=iI q5
   rw [eq_of_beq x,Fast.sEq_iff.mpr rfl] at this
   cases this
 have q6:prog.main.file=file:=Fast.sEq_iff.mp q6
 have q7:=iI q7
 rw [<- Fast.sDec_eq] at q7
 rw [<- o7] at q3 q7 h ⊢
 rw [<- o8] at q4 q5
 rw [<- lN] at h
 exact m6 hc q2 q3 q4 q5 hf Iq vW har vY vZ o6 lH (by rw [q6];exact beq_self_eq_true _) q7 h
noncomputable def v8:(s:Stmt)->Option {x:Expr×List Stmt×List Stmt×Pos // s=.If x.1 x.2.1 x.2.2.1 x.2.2.2}
 | .If t b o p=>some ⟨(t,b,o,p),rfl⟩
 | _=>none
structure FB where
 id:Str
 p0:Pos
 p1:Pos
 name:Str
 apos:Pos
 pos:Pos
 args:List Expr
 kws:List Keyword
 pos2:Pos
noncomputable def ry:(s:Stmt)->Option {x:FB // s=.Expr (.Call (.Attribute (.Call (.Name x.id x.p0) [] [] x.p1) x.name x.apos) x.args x.kws x.pos) x.pos2}
 | .Expr (.Call (.Attribute (.Call (.Name id p0) [] [] p1) name apos) args kws pos) pos2=>some ⟨⟨id,p0,p1,name,apos,pos,args,kws,pos2⟩,rfl⟩
 | _=>none
noncomputable def zZ (env:Env) (ih:Stmt->Sem Flow) (x:Expr×List Stmt×List Stmt×Pos):Sem Flow:=R.bindR (standAt x.2.2.2) fun _=>R.bindR (Fast.tw15418851999007992765 x.1 env (Fast.tw14044960220447912780 x.1 env)) fun b=>@Bool.rec (fun _=>Sem Flow) (rx ih x.2.2.1) (rx ih x.2.1) b
noncomputable def Dm (env:Env) (k:Nat):Stmt->Sem Flow:=@Nat.rec (fun _=>Stmt->Sem Flow) (v6 env) (fun _ ih s=>match v8 s with
 | some x=>zZ env ih x.1
 | none=>match ry s with
  | some x=>s9 env x.1.id x.1.p0 x.1.p1 x.1.name x.1.apos x.1.pos x.1.args x.1.kws x.1.pos2
  | none=>v6 env s) k
theorem AL {prog : Program} {env : Env} {ih : Stmt -> Sem Flow} (IH : ∀ l Q E p st, wp (model prog w) Γ (rx ih l) Q E p st -> wp (model prog w) Γ (execs l env) Q E p st) {x : Expr × List Stmt × List Stmt × Pos} {Q E p st}
    (h : wp (model prog w) Γ (zZ env ih x) Q E p st) : wp (model prog w) Γ (exec (.If x.1 x.2.1 x.2.2.1 x.2.2.2) env) Q E p st := by
  unfold zZ at h
  rw [<- R.bindR_eq, <- Fast.te15418851999007992765, <- Fast.te14044960220447912780] at h
  have b (α β : Type) (m : Sem α) (f : α -> Sem β) : m.bind f = m >>= f := rfl
  simp only [b, Sem.wp_bind'] at h
  show wp (model prog w) Γ (do standAt x.2.2.2; if <- isTrue x.1 env (eval x.1 env) then execs x.2.1 env else execs x.2.2.1 env) Q E p st
  simp only [Sem.wp_bind']
  refine Sem.wp_mono _ Γ _ (fun _ p' s' h => ?_) (fun _ _ _ h => h) _ _ h
  refine Sem.wp_mono _ Γ _ (fun c p' s' h => ?_) (fun _ _ _ h => h) _ _ h
  cases c with
  | true => rw [if_pos rfl]; exact IH _ _ _ _ _ h
  | false => rw [if_neg Bool.false_ne_true]; exact IH _ _ _ _ _ h
theorem td {prog:Program}{w:World}{Γ:Ctx}{body:List Stmt}{env:Env}(hc:Γ.code=.func body env):∀ (k:Nat) s Q E p st,wp (model prog w) Γ (Dm env k s) Q E p st->wp (model prog w) Γ (exec s env) Q E p st
 | 0,s,Q,E,p,st,h=>s8 h
 | k+1,s,Q,E,p,st,h=>by
  have h:wp (model prog w) Γ (match v8 s with
   | some x=>zZ env (Dm env k) x.1
   | none=>match ry s with
    | some x=>s9 env x.1.id x.1.p0 x.1.p1 x.1.name x.1.apos x.1.pos x.1.args x.1.kws x.1.pos2
    | none=>v6 env s) Q E p st:=h
  generalize v8 s=a at h
  generalize ry s=b at h
  match a,b,h with
  | some ⟨x,e⟩,_,h=>rw [e];exact AL (nZ (td hc k)) h
  | none,some ⟨x,e⟩,h=>rw [e];exact v7 hc h
  | none,none,h=>exact s8 h
noncomputable def rz (body:List Stmt) (env:Env):Sem Fin:=
 R.bindR point fun _=>R.bindR (R.onRaiseR (rx (Dm env 5) body) (Fast.tw9442747609961115081 env)) fun fl=>match fl with | .ret v=>Fast.tw6905046200447255374 v | _=>Fast.tw6905046200447255374 .none
theorem uq {prog : Program} {env : Env} (hc : Γ.code = .func body env) {Q : Fin -> Pos -> Shared -> Prop} {s : Shared}
    (h : wp (model prog w) Γ (rz body env) Q E p s) : wp (model prog w) Γ (denote table Γ.code) Q E p s := by
  rw [hc]
  unfold rz at h
  rw [<- R.bindR_eq, <- R.onRaiseR_eq, <- Fast.te9442747609961115081, <- Fast.te6905046200447255374] at h
  have b (α β : Type) (m : Sem α) (f : α -> Sem β) : m.bind f = m >>= f := rfl
  show wp (model prog w) Γ (do point; match <- (execs body env).onRaise (leaving env) with | .ret v => ret v | _ => ret .none) Q E p s
  simp only [b, Sem.wp_bind', Sem.wp_cmd_point, Sem.wp_onRaise] at h ⊢
  refine Sem.wp_mono _ Γ _ (fun f p' s' h => ?_) (fun _ _ _ h => h) _ _ (nZ (td hc 5) body _ _ _ _ h)
  cases f <;> exact h
noncomputable def tg (k:Nat):Stmt->Bool:=@Nat.rec (fun _=>Stmt->Bool) (fun _=>false) (fun _ ih s=>match s with
 | .If _ body ba _=>@Bool.rec (fun _=>Bool) (anyL ih ba) true (anyL ih body)
 | .Expr (.Call (.Attribute (.Call (.Name id _) [] [] _) _ _) _ _ _) _=>Fast.sEq id lI
 | _=>false) k
where anyL (f:Stmt->Bool) (l:List Stmt):Bool:=@List.rec Stmt (fun _=>Bool) false (fun s _ ih=>@Bool.rec (fun _=>Bool) ih true (f s)) l
end
section
variable {E:En}{X:Value->Pos->Shared->Prop}{a b g i n tk x:Nat}{gd own:Bool}{hd kE:Option Value}{hs:List Nat}{m:Mm}{o:Obj}{p q:Pos}{Γ:Ctx}
noncomputable abbrev Mm:=List (Addr×Obj)
noncomputable def Y (l:Mm):Nat->Option (Addr×Obj):=
 @List.rec (Addr×Obj) (fun _=>Nat->Option (Addr×Obj)) (fun _=>none) (fun x _ ih i=>@Nat.rec (fun _=>Option (Addr×Obj)) (some x) (fun j _=>ih j) i) l
noncomputable def aK (l:Mm):Nat->Obj->Mm:=
 @List.rec (Addr×Obj) (fun _=>Nat->Obj->Mm) (fun _ _=>[]) (fun x r ih i o=>@Nat.rec (fun _=>Mm) ((x.1,o)::r) (fun j _=>x::ih j o) i) l
noncomputable def bh (l:Mm) (y:Addr×Obj):Mm:=
 @List.rec (Addr×Obj) (fun _=>Mm) [y] (fun x _ ih=>x::ih) l
noncomputable def ah (l:Mm):Nat:=@List.rec (Addr×Obj) (fun _=>Nat) 0 (fun _ _ ih=>Nat.succ ih) l
noncomputable def g8 (a:Nat) (l:List Nat):Bool:=@List.rec Nat (fun _=>Bool) false (fun x _ ih=>@Bool.rec (fun _=>Bool) ih true (Nat.beq a x)) l
theorem bN:∀ (l:Mm) (i j:Nat) (o:Obj),Y (aK l i o) j=if j=i then (Y l i).map (fun x=>(x.1,o)) else Y l j
 | [],i,j,o=>by show none=if j=i then Option.map _ none else none;split<;>rfl
 | x::r,0,0,o=>rfl
 | x::r,0,j+1,o=>by show Y r j=_;rw [if_neg (by lia)];rfl
 | x::r,i+1,0,o=>by show some x=_;rw [if_neg (by lia)];rfl
 | x::r,i+1,j+1,o=>by
  show Y (aK r i o) j=_
  rw [bN r i j o]
  by_cases h:j=i
  ·rw [if_pos h,if_pos (by lia)];rfl
  ·rw [if_neg h,if_neg (by lia)];rfl
theorem av:∀ (l:Mm) (y:Addr×Obj) (j:Nat),Y (bh l y) j=if j=ah l then some y else Y l j
 | [],y,0=>rfl
 | [],y,j+1=>rfl
 | x::r,y,0=>by show some x=_;rw [if_neg (show ¬ 0=ah (x::r) from fun e=>nomatch (show 0=Nat.succ (ah r) from e))];rfl
 | x::r,y,j+1=>by
  show Y (bh r y) j=if j+1=Nat.succ (ah r) then some y else Y r j
  rw [av r y j]
  by_cases h:j=ah r
  ·rw [if_pos h,if_pos (by lia)]
  ·rw [if_neg h,if_neg (by lia)]
theorem dU:∀ (l:Mm) (i:Nat) (x:Addr×Obj),Y l i=some x->i < ah l
 | [],_,_,h=>nomatch h
 | _::_,0,_,_=>Nat.succ_pos _
 | _::r,i+1,x,h=>Nat.succ_lt_succ (dU r i x h)
structure Fm where
 Γ:Ctx
 p:Pos
 k:Result->Sem Fin
structure fH where
 Γ:Ctx
 p:Pos
 κ:List Fm
 t:Sem Fin
 m:Mm
 n:Nat
 tk:Nat
structure Ask where
 Γ:Ctx
 code:Code
 p:Pos
 m:Mm
 n:Nat
 tk:Nat
structure fm where
 t:Sem Fin
 p:Pos
 m:Mm
 n:Nat
 tk:Nat
 hs:List Nat
structure dI where
 c:fH
 L:List Nat
 R:List Nat
 A:List Ask
structure En where
 prog:Program
 w:World
 T:BT
 mu:List Nat
 G:Array GenState->Prop
 nb:Bool
 gs:Option (Nat×(GenStatus×Option (List (Code×Pos))))
 hgs:∀ x,gs=some x->∀ a,G a->∃ st,a[x.1]?=some st/\st.seen=x.2
theorem v9 {G:Array GenState->Prop}:∀ x,(none:Option (Nat×(GenStatus×Option (List (Code×Pos)))))=some x->∀ a,G a->∃ st,a[x.1]?=some st/\st.seen=x.2:=fun _ h=>nomatch h
noncomputable def den:Code->Sem Fin:=Fast.tw11892475500146522536 Fast.tw14364793385576792824
theorem n4:den=denote table:=by
 rw [table_eq_tree,Fast.te11892475500146522536,Fast.te14364793385576792824];rfl
noncomputable def nr (E:En) (c:Code):Option (Sem Fin):=match c with
 | .func body env=>match tg.anyL (tg 5) body with
  | true=>some (rz body env)
  | false=>none
 | _=>none
theorem kF {t:Sem Fin}(h:nr E Γ.code=some t)
  {Q:Fin->Pos->Shared->Prop}{s:Shared}(hw:wp (model E.prog E.w) Γ t Q X p s):wp (model E.prog E.w) Γ (denote table Γ.code) Q X p s:=by
 unfold nr at h
 split at h
 case h_2=>cases h
 rename_i body env hc
 split at h
 case h_2=>cases h
 cases h
 exact uq hc hw
noncomputable def stop (c:fH):dI:=⟨c,[],[],[]⟩
noncomputable def tie (a b:Nat) (o:dI):dI:=⟨o.c,a::o.L,b::o.R,o.A⟩
noncomputable def wa (a:Ask) (o:dI):dI:=⟨o.c,o.L,o.R,a::o.A⟩
noncomputable abbrev Ih:=List Nat->List (Ask->fm)->fH->dI
noncomputable def pop (ih:Ih) (hs:List Nat) (as:List (Ask->fm)) (r:Result) (c:fH):dI:=match c.κ with
 | []=>stop c
 | f::κ=>ih hs as ⟨f.Γ,f.p,κ,f.k r,c.m,c.n,c.tk⟩
noncomputable def ti (ih:Ih) (a:Ask->fm) (as:List (Ask->fm)) (q:Ask) (κ:List Fm):dI:=
 wa q (ih (a q).hs as ⟨q.Γ,(a q).p,κ,(a q).t,(a q).m,(a q).n,(a q).tk⟩)
noncomputable def lD (κ:List Fm):Bool:=match κ with | []=>false | _::_=>true
noncomputable def AV (a b:Bool):Bool:=match a with | true=>true | false=>b
noncomputable def n5 (E:En) (ih:Ih) (hs:List Nat) (as:List (Ask->fm)) (c:fH):dI:=match c.t with
 | .pure fin=>match fin with
  | .done f=>pop ih hs as (.ok f) c
  | .again c'=>match hs with
   | []=>stop c
   | x::ca=>match x with
    | 0=>match c'.quiet with
     | true=>ih ca as ⟨c.Γ.goto c',c.p,c.κ,den c',c.m,c.n,c.tk⟩
     | false=>stop c
    | y+1=>match c'.quiet with
     | true=>match y with
      | 0=>match c.κ with
       | []=>stop c
       | _::_=>match as with
        | []=>stop c
        | a::rA=>ti ih a rA ⟨c.Γ.goto c',c',c.p,c.m,c.n,c.tk⟩ c.κ
      | y+1=>match y with
       | 0=>match AV (lD c.κ) E.nb with
        | true=>match nr E c' with
         | some t=>ih ca as ⟨c.Γ.goto c',c.p,c.κ,t,c.m,c.n,c.tk⟩
         | none=>stop c
        | false=>stop c
       | _+1=>stop c
     | false=>stop c
 | .raise e=>pop ih hs as (.error e) c
 | .rule _ k=>ih hs as ⟨c.Γ,c.p,c.κ,k (),c.m,c.n,c.tk⟩
 | .point _ k=>ih hs as ⟨c.Γ,c.p,c.κ,k (),c.m,c.n,c.tk⟩
 | .at q k=>ih hs as ⟨c.Γ,q,c.κ,k (),c.m,c.n,c.tk⟩
 | .ask k=>ih hs as ⟨c.Γ,c.p,c.κ,k ⟨E.prog,E.w.params⟩,c.m,c.n,c.tk⟩
 | .fresh k=>ih hs as ⟨c.Γ,c.p,c.κ,k c.tk,c.m,c.n,c.tk+1⟩
 | .handled own k=>ih hs as ⟨c.Γ,c.p,c.κ,k (match own with | true=>c.Γ.own | false=>c.Γ.handled),c.m,c.n,c.tk⟩
 | .stack k=>ih hs as ⟨c.Γ,c.p,c.κ,k ((c.Γ.code,c.p)::c.Γ.below),c.m,c.n,c.tk⟩
 | .thread k=>ih hs as ⟨c.Γ,c.p,c.κ,k 0,c.m,c.n,c.tk⟩
 | .load a _ k=>match hs with
  | []=>stop c
  | x::ca=>match x with
   | 0=>match g8 a E.mu with
    | true=>stop c
    | false=>match E.T.get a with
     | some o=>ih ca as ⟨c.Γ,c.p,c.κ,k o,c.m,c.n,c.tk⟩
     | none=>stop c
   | i+1=>match Y c.m i with
    | some x=>tie a x.1 (ih ca as ⟨c.Γ,c.p,c.κ,k x.2,c.m,c.n,c.tk⟩)
    | none=>stop c
 | .loadIfAlive a k=>match hs with
  | []=>stop c
  | x::ca=>match x with
   | 0=>match g8 a E.mu with
    | true=>stop c
    | false=>match E.T.get a with
     | some o=>ih ca as ⟨c.Γ,c.p,c.κ,k (some o),c.m,c.n,c.tk⟩
     | none=>stop c
   | i+1=>match Y c.m i with
    | some x=>tie a x.1 (ih ca as ⟨c.Γ,c.p,c.κ,k (some x.2),c.m,c.n,c.tk⟩)
    | none=>stop c
 | .update a _ f k=>match hs with
  | []=>stop c
  | x::ca=>match x with
   | 0=>stop c
   | i+1=>match Y c.m i with
    | some x=>match (f x.2).isFreed with
     | false=>tie a x.1 (ih ca as ⟨c.Γ,c.p,c.κ,k (),aK c.m i (f x.2),c.n,c.tk⟩)
     | true=>stop c
    | none=>stop c
 | .alloc o k=>match o.isFreed with
  | false=>ih hs as ⟨c.Γ,c.p,c.κ,k c.n,bh c.m (c.n,o),c.n+1,c.tk⟩
  | true=>stop c
 | .call c' hd _ _ k=>match hs with
  | []=>stop c
  | x::ca=>match x with
   | 0=>ih ca as ⟨c.Γ.enter c' hd c.p,c.p,⟨c.Γ,c.p,k⟩::c.κ,den c',c.m,c.n,c.tk⟩
   | _+1=>match as with
    | []=>stop c
    | a::rA=>ti ih a rA ⟨c.Γ.enter c' hd c.p,c',c.p,c.m,c.n,c.tk⟩ (⟨c.Γ,c.p,k⟩::c.κ)
 | .unsupported _=>stop c
 | .finish _=>stop c
 | .register ..=>stop c
 | .choose ..=>stop c
 | .os ..=>stop c
 | .genState g k=>match E.gs with
  | some x=>tie g x.1 (ih hs as ⟨c.Γ,c.p,c.κ,k x.2,c.m,c.n,c.tk⟩)
  | none=>stop c
 | .newGen ..=>stop c
 | .resume ..=>stop c
 | .yield ..=>stop c
 | .fork ..=>stop c
 | .await ..=>stop c
noncomputable def run (E:En) (aP:Nat):Ih:=@Nat.rec (fun _=>Ih) (fun _ _ c=>stop c) (fun _ ih=>n5 E ih) aP
structure m7 (M:Model) (nb:Bool) where
 B:Ctx->Sem Fin->Pos->Shared->Prop
 rule:∀ {Γ AW k p s},B Γ (k ()) p s->B Γ (.rule AW k) p s
 point:∀ {Γ l k p s},B Γ (k ()) p s->B Γ (.point l k) p s
 at_:∀ {Γ q k p s},B Γ (k ()) q s->B Γ (.at q k) p s
 ask:∀ {Γ k p s},B Γ (k ⟨M.prog,M.w.params⟩) p s->B Γ (.ask k) p s
 fresh:∀ {Γ k p s},B Γ (k s.toks) p {s with toks:=s.toks+1}->B Γ (.fresh k) p s
 handled:∀ {Γ own k p s},B Γ (k (if own then Γ.own else Γ.handled)) p s->B Γ (.handled own k) p s
 stack:∀ {Γ k p s},B Γ (k ((Γ.code,p)::Γ.below)) p s->B Γ (.stack k) p s
 thread:∀ {Γ k p s},B Γ (k 0) p s->B Γ (.thread k) p s
 load:∀ {Γ a kE k p s o},s.heap.get? a=some o->B Γ (k o) p s->B Γ (.load a kE k) p s
 loadIfAlive:∀ {Γ a k p s},B Γ (k (s.heap.get? a)) p s->B Γ (.loadIfAlive a k) p s
 update:∀ {Γ a kE f k p s},(s.heap.get? a).isSome=true->B Γ (k ()) p {s with heap:=s.heap.update a f}->B Γ (.update a kE f k) p s
 genState:∀ {Γ g k p s st},s.gens[g]?=some st->B Γ (k st.seen) p s->B Γ (.genState g k) p s
 alloc:∀ {Γ o k p s},B Γ (k s.heap.objs.size) p {s with heap:=s.heap.push o}->B Γ (.alloc o k) p s
 call:∀ {Γ c h g l k p s},wpCode M (Γ.enter c h p) (fun r s'=>B Γ (k r) p s') p s->B Γ (.call c h g l k) p s
 again:∀ {Γ c p s},c.quiet=true->B (Γ.goto c) (M.den c) p s->B Γ (.pure (.again c)) p s
 sup:nb=true->∀ {Γ c t p s},c.quiet=true->(∀ Q X,wp M (Γ.goto c) t Q X p s->wp M (Γ.goto c) (M.den c) Q X p s)->B (Γ.goto c) t p s->B Γ (.pure (.again c)) p s
noncomputable def Cw (M:Model) (nb:Bool) (R:Result->Shared->Prop):m7 M nb where
 B Γ t p s:=wp M Γ t (finPost M Γ R) (fun e _ s'=>R (.error e) s') p s
 rule h:=h
 point h:=h
 at_ h:=h
 ask h:=h
 fresh h:=h
 handled h:=h
 stack h:=h
 thread h:=h
 load e h:=⟨_,e,h⟩
 loadIfAlive h:=h
 update e h:=⟨e,h⟩
 genState e h:=⟨_,e,h⟩
 alloc h:=h
 call h:=h
 again q h:=⟨q,(wpCode_iff_wp _ _ _ _ _).mpr h⟩
 sup _ {_ _ _ _ _} q f h:=⟨q,(wpCode_iff_wp _ _ _ _ _).mpr (f _ _ h)⟩
noncomputable def post (M:Model) {nb:Bool}(B:m7 M nb) (f:Fm) (κ:List Fm):Result->Shared->Prop:=match κ with
 | []=>fun r s=>B.B f.Γ (f.k r) f.p s
 | f'::κ=>fun r s=>wp M f.Γ (f.k r) (finPost M f.Γ (post M B f' κ)) (fun e _ s'=>post M B f' κ (.error e) s') f.p s
noncomputable def bB (M:Model) {nb:Bool}(B:m7 M nb) (c:fH) (s:Shared):Prop:=match c.κ with
 | []=>B.B c.Γ c.t c.p s
 | f::κ=>wp M c.Γ c.t (finPost M c.Γ (post M B f κ)) (fun e _ s'=>post M B f κ (.error e) s') c.p s
noncomputable def Wc (M:Model) (R:Result->Shared->Prop) (c:fH) (s:Shared):Prop:=bB M (Cw M true R) c s
theorem cO {M:Model}{R:Result->Shared->Prop}{t:Sem Fin}{s:Shared}:Wc M R ⟨Γ,p,[],t,m,n,tk⟩ s=wp M Γ t (finPost M Γ R) (fun e _ s'=>R (.error e) s') p s:=rfl
structure Rep (E:En) (V:Heap) (U:Nat) (m:Mm) (n:Nat) (h:Heap):Prop where
 size:h.objs.size=n
 base:∀ a o,E.T.get a=some o->g8 a E.mu=false->h.get? a=some o
 own:∀ i a o,Y m i=some (a,o)->h.get? a=some o
 apart:∀ i j a o o',Y m i=some (a,o)->Y m j=some (a,o')->i=j
 off:∀ i a o,Y m i=some (a,o)->g8 a E.mu=true∨E.T.get a=none
 keep:∀ b o,V.get? b=some o->(∀ i a o',i < U->Y m i=some (a,o')->a≠b)->h.get? b=some o
 start:V.objs.size<=n
 fresh:∀ i a o,U<=i->Y m i=some (a,o)->V.objs.size<=a
 old:U<=ah m
 lowT:∀ a,n<=a->E.T.get a=none
section
variable {E:En}{V:Heap}{U:Nat}{m:Mm}{n:Nat}{h:Heap}
theorem Rep.push (r:Rep E V U m n h) (hf:o.isFreed=false):Rep E V U (bh m (n,o)) (n+1) (h.push o):=by
 have hn:(h.push o).get? n=some o:=by rw [<- r.size];exact Heap.get?_push_size h hf
 have lt:∀ i a o',Y m i=some (a,o')->a < n:=fun i a o' e=>r.size▸Heap.lt_size (r.own i a o' e)
 refine ⟨by rw [Heap.size_push,r.size],fun a o' e q=>Heap.get?_push_of_some _ (r.base a o' e q),fun i a o' e=>?_,fun i j a o1 o2 e1 e2=>?_,fun i a o' e=>?_,fun b o' e q=>?_,Nat.le_succ_of_le r.start,fun i a o' hi e=>?_,?_,fun a ha=>r.lowT a (by lia)⟩
 ·rw [av] at e
  split at e
  ·cases e;exact hn
  ·exact Heap.get?_push_of_some _ (r.own i a o' e)
 ·rw [av] at e1 e2
  split at e1<;>split at e2
  ·lia
  ·cases e1;exact absurd (lt _ _ _ e2) (Nat.lt_irrefl _)
  ·cases e2;exact absurd (lt _ _ _ e1) (Nat.lt_irrefl _)
  ·exact r.apart i j a o1 o2 e1 e2
 ·rw [av] at e
  split at e
  ·cases e;exact .inr (r.lowT n (Nat.le_refl _))
  ·exact r.off i a o' e
 ·refine Heap.get?_push_of_some _ (r.keep b o' e fun i a n6 hi e2=>?_)
  refine q i a n6 hi ?_
  rw [av,if_neg (by have:=r.old;lia)]
  exact e2
 ·rw [av] at e
  split at e
  ·cases e;exact r.start
  ·exact r.fresh i a o' hi e
 ·have:∀ l:Mm,ah (bh l (n,o))=ah l+1:=by
   intro l
   induction l with
   | nil=>rfl
   | cons x l ih=>show Nat.succ (ah (bh l (n,o)))=_;rw [ih];rfl
  rw [this];exact Nat.le_succ_of_le r.old
theorem Rep.update (r:Rep E V U m n h) {a:Addr}{f:Obj->Obj}(e:Y m i=some (a,o)) (hf:(f o).isFreed=false):
  (h.get? a).isSome=true/\Rep E V U (aK m i (f o)) n (h.update a f):=by
 have ho:=r.own i a o e
 refine ⟨by rw [ho];rfl,?_⟩
 have hs:Heap.SameBut a h (h.update a f):=Heap.SameBut.update ..
 have ge:(h.update a f).get? a=some (f o):=Heap.get?_update_self f ho hf
 have gs:∀ j b o',Y (aK m i (f o)) j=some (b,o')->(j=i/\b=a/\o'=f o)∨(j≠i/\Y m j=some (b,o')):=by
  intro j b o' q
  rw [bN,e] at q
  split at q
  ·rename_i hj
   cases q
   exact .inl ⟨hj,rfl,rfl⟩
  ·rename_i hj
   exact .inr ⟨hj,q⟩
 refine ⟨by rw [hs.1,r.size],fun b o' q z=>?_,fun j b o' q=>?_,fun j1 j2 b o1 o2 q1 q2=>?_,fun j b o' q=>?_,fun b o' q z=>?_,r.start,fun j b o' hj q=>?_,?_,r.lowT⟩
 ·refine (hs.2 b ?_).trans (r.base b o' q z)
  rintro rfl
  rcases r.off i _ o e with x | x
  ·rw [x] at z;cases z
  ·rw [x] at q;cases q
 ·rcases gs j b o' q with ⟨rfl,rfl,rfl⟩ | ⟨hj,q⟩
  ·exact ge
  ·refine (hs.2 b ?_).trans (r.own j b o' q)
   rintro rfl
   exact hj (r.apart j i _ _ _ q e)
 ·rcases gs j1 b o1 q1 with ⟨Dn,Do,_⟩ | ⟨Dn,FC⟩<;>rcases gs j2 b o2 q2 with ⟨wb,Dp,_⟩ | ⟨wb,FD⟩
  ·exact Dn.trans wb.symm
  ·subst Do;subst Dn;exact r.apart _ j2 _ _ _ e FD
  ·subst Dp;subst wb;exact r.apart j1 _ _ _ _ FC e
  ·exact r.apart j1 j2 b o1 o2 FC FD
 ·rcases gs j b o' q with ⟨rfl,rfl,rfl⟩ | ⟨_,q⟩
  ·exact r.off j b o e
  ·exact r.off j b o' q
 ·have k:=r.keep b o' q fun j c n6 hj q2=>by
   by_cases FE:j=i
   ·subst FE
    rw [e] at q2
    cases q2
    exact z j a (f o) hj (by rw [bN,if_pos rfl,e];rfl)
   ·exact z j c n6 hj (by rw [bN,if_neg FE];exact q2)
  refine (hs.2 b ?_).trans k
  rintro rfl
  by_cases hi:i < U
  ·exact z i b (f o) hi (by rw [bN,if_pos rfl,e];rfl) rfl
  ·exact absurd (Heap.lt_size q) (Nat.not_lt.mpr (r.fresh i b o (by lia) e))
 ·rcases gs j b o' q with ⟨rfl,rfl,rfl⟩ | ⟨_,q⟩
  ·exact r.fresh j b o hj e
  ·exact r.fresh j b o' hj q
 ·have:∀ (l:Mm) (i:Nat) (x:Addr×Obj),Y l i=some x->ah (aK l i (f o))=ah l:=by
   intro l
   induction l with
   | nil=>intro i x q;cases q
   | cons y l ih=>
    intro i x q
    cases i with
    | zero=>rfl
    | succ i=>show Nat.succ (ah (aK l i (f o)))=Nat.succ (ah l);rw [ih i x q]
  rw [this m i _ e];exact r.old
end
noncomputable def ff:List Ask->List (Ask->Prop)->Prop
 | [],[]=>True
 | a::A,e::es=>e a/\ff A es
 | _,_=>False
inductive cY:Type 1
 | nil
 | cons {X:Type}(x:X) (e:Ask->Prop) (ans:X->Ask->fm) (says:X->Prop) (rest:X->cY)
noncomputable def cY.Runs:cY->(List (Ask->fm)->dI)->List (Ask->Prop)->Prop
 | .nil,o,es=>(o []).L=(o []).R/\ff (o []).A es
 | .cons _ e ans _ rest,o,es=>∀ x,(rest x).Runs (fun l=>o (ans x::l)) (es++[e])
noncomputable def cY.Fin (F:fH->Prop):cY->(List (Ask->fm)->dI)->Prop
 | .nil,o=>F (o []).c
 | .cons _ _ ans says rest,o=>∀ x,says x->(rest x).Fin F (fun l=>o (ans x::l))
section
variable {E:En}{V:Heap}{U:Nat}{R:Result->Shared->Prop}{d:Drawn}{os:OsState}
noncomputable abbrev Mo (E:En):Model:=model E.prog E.w
noncomputable def Holds (E:En) (V:Heap) (U:Nat) (d:Drawn) (os:OsState) {X:Type}(e:Ask->Prop) (ans:X->Ask->fm) (says:X->Prop):Prop:=
 ∀ (q:Ask) (Q:Result->Shared->Prop) (h:Heap) (g:Array GenState),e q->q.Γ.code=q.code->E.G g->Rep E V U q.m q.n h->
  (∀ x,says x->∀ h' g',E.G g'->Rep E V U (ans x q).m (ans x q).n h'->wp (Mo E) q.Γ (ans x q).t (finPost (Mo E) q.Γ Q) (fun e _ s'=>Q (.error e) s') (ans x q).p ⟨h',g',d,(ans x q).tk,os⟩)->
  wpCode (Mo E) q.Γ Q q.p ⟨h,g,d,q.tk,os⟩
noncomputable def cY.Valid (E:En) (V:Heap) (U:Nat) (d:Drawn) (os:OsState):cY->Prop
 | .nil=>True
 | .cons _ e ans says rest=>Holds E V U d os e ans says/\∀ x,says x->(rest x).Valid E V U d os
noncomputable def gI (E:En) (V:Heap) (U:Nat) (B:m7 (Mo E) E.nb) (d:Drawn) (os:OsState) (c:fH):Prop:=
 ∀ h g,E.G g->Rep E V U c.m c.n h->bB (Mo E) B c ⟨h,g,d,c.tk,os⟩
noncomputable def Well (E:En) (V:Heap) (U:Nat) (R:Result->Shared->Prop) (d:Drawn) (os:OsState) (c:fH):Prop:=
 ∀ h g,E.G g->Rep E V U c.m c.n h->Wc (Mo E) R c ⟨h,g,d,c.tk,os⟩
noncomputable def lO (E:En) (V:Heap) (U:Nat) (B:m7 (Mo E) E.nb) (d:Drawn) (os:OsState) (ih:Ih):Prop:=
 ∀ (τ:cY) hs c,τ.Runs (fun as=>ih hs as c) []->τ.Valid E V U d os->τ.Fin (gI E V U B d os) (fun as=>ih hs as c)->gI E V U B d os c
theorem cY.runs_stop {c:fH}:∀ {τ:cY}{es:List (Ask->Prop)},τ.Runs (fun _=>stop c) es->es=[]/\τ=.nil
 | .nil,[],_=>⟨rfl,rfl⟩
 | .nil,_::_,h=>(nomatch h.2)
 | .cons x e ans says rest,es,h=>by
  have z:=(cY.runs_stop (h x)).1
  simp at z
theorem cY.runs_tie {a b:Nat}:∀ {τ:cY}{o:List (Ask->fm)->dI}{es:List (Ask->Prop)},τ.Runs (fun l=>tie a b (o l)) es->a=b/\τ.Runs o es
 | .nil,o,es,h=>by
  have q:a::(o []).L=b::(o []).R:=h.1
  exact ⟨(List.cons.inj q).1,(List.cons.inj q).2,h.2⟩
 | .cons x e ans says rest,o,es,h=>⟨(cY.runs_tie (o:=fun l=>o (ans x::l)) (h x)).1,fun y=>(cY.runs_tie (o:=fun l=>o (ans y::l)) (h y)).2⟩
theorem cY.fin_tie {F:fH->Prop}{a b:Nat}:∀ {τ:cY}{o:List (Ask->fm)->dI},τ.Fin F (fun l=>tie a b (o l))->τ.Fin F o
 | .nil,_,h=>h
 | .cons x e ans says rest,o,h=>fun y q=>cY.fin_tie (o:=fun l=>o (ans y::l)) (h y q)
theorem cY.runs_emit {a:Ask}{e:Ask->Prop}:∀ {τ:cY}{o:List (Ask->fm)->dI}{es:List (Ask->Prop)},τ.Runs (fun l=>wa a (o l)) (e::es)->e a/\τ.Runs o es
 | .nil,o,es,h=>⟨h.2.1,h.1,h.2.2⟩
 | .cons x e' ans says rest,o,es,h=>⟨(cY.runs_emit (o:=fun l=>o (ans x::l)) (h x)).1,fun y=>(cY.runs_emit (o:=fun l=>o (ans y::l)) (h y)).2⟩
theorem cY.fin_emit {F:fH->Prop}{a:Ask}:∀ {τ:cY}{o:List (Ask->fm)->dI},τ.Fin F (fun l=>wa a (o l))->τ.Fin F o
 | .nil,_,h=>h
 | .cons x e ans says rest,o,h=>fun y q=>cY.fin_emit (o:=fun l=>o (ans y::l)) (h y q)
theorem cY.fin_stop {F:fH->Prop}{c:fH}{τ:cY}{es:List (Ask->Prop)}(h:τ.Runs (fun _=>stop c) es) (f:τ.Fin F (fun _=>stop c)):F c:=by
 obtain ⟨_,rfl⟩:=cY.runs_stop h
 exact f
section
variable {M:Model}{nb:Bool}{B:m7 M nb}{Γ:Ctx}{p:Pos}{κ:List Fm}{m m':Mm}{n n' tk a8:Nat}{s:Shared}
theorem bB.rule {AW:String}{k:Unit->Sem Fin}(h:bB M B ⟨Γ,p,κ,k (),m,n,tk⟩ s):bB M B ⟨Γ,p,κ,.rule AW k,m',n',a8⟩ s:=by cases κ with | nil=>exact B.rule h | cons _ _=>exact h
theorem bB.point {l:List Value}{k:Unit->Sem Fin}(h:bB M B ⟨Γ,p,κ,k (),m,n,tk⟩ s):bB M B ⟨Γ,p,κ,.point l k,m',n',a8⟩ s:=by cases κ with | nil=>exact B.point h | cons _ _=>exact h
theorem bB.at_ {k:Unit->Sem Fin}(h:bB M B ⟨Γ,q,κ,k (),m,n,tk⟩ s):bB M B ⟨Γ,p,κ,.at q k,m',n',a8⟩ s:=by cases κ with | nil=>exact B.at_ h | cons _ _=>exact h
theorem bB.ask {k:Setting->Sem Fin}(h:bB M B ⟨Γ,p,κ,k ⟨M.prog,M.w.params⟩,m,n,tk⟩ s):bB M B ⟨Γ,p,κ,.ask k,m',n',a8⟩ s:=by cases κ with | nil=>exact B.ask h | cons _ _=>exact h
theorem bB.fresh {k:Tok->Sem Fin}(h:bB M B ⟨Γ,p,κ,k s.toks,m,n,tk⟩ {s with toks:=s.toks+1}):bB M B ⟨Γ,p,κ,.fresh k,m',n',a8⟩ s:=by cases κ with | nil=>exact B.fresh h | cons _ _=>exact h
theorem bB.handled {k:Option Value->Sem Fin}(h:bB M B ⟨Γ,p,κ,k (if own then Γ.own else Γ.handled),m,n,tk⟩ s):bB M B ⟨Γ,p,κ,.handled own k,m',n',a8⟩ s:=by cases κ with | nil=>exact B.handled h | cons _ _=>exact h
theorem bB.stack {k:List (Code×Pos)->Sem Fin}(h:bB M B ⟨Γ,p,κ,k ((Γ.code,p)::Γ.below),m,n,tk⟩ s):bB M B ⟨Γ,p,κ,.stack k,m',n',a8⟩ s:=by cases κ with | nil=>exact B.stack h | cons _ _=>exact h
theorem bB.thread {k:Nat->Sem Fin}(h:bB M B ⟨Γ,p,κ,k 0,m,n,tk⟩ s):bB M B ⟨Γ,p,κ,.thread k,m',n',a8⟩ s:=by cases κ with | nil=>exact B.thread h | cons _ _=>exact h
theorem bB.load {a:Addr}{k:Obj->Sem Fin}(e:s.heap.get? a=some o) (h:bB M B ⟨Γ,p,κ,k o,m,n,tk⟩ s):bB M B ⟨Γ,p,κ,.load a kE k,m',n',a8⟩ s:=by cases κ with | nil=>exact B.load e h | cons _ _=>exact ⟨o,e,h⟩
theorem bB.loadIfAlive {a:Addr}{k:Option Obj->Sem Fin}{o:Option Obj}(e:s.heap.get? a=o) (h:bB M B ⟨Γ,p,κ,k o,m,n,tk⟩ s):bB M B ⟨Γ,p,κ,.loadIfAlive a k,m',n',a8⟩ s:=by subst e;cases κ with | nil=>exact B.loadIfAlive h | cons _ _=>exact h
theorem bB.update {a:Addr}{f:Obj->Obj}{k:Unit->Sem Fin}(e:(s.heap.get? a).isSome=true) (h:bB M B ⟨Γ,p,κ,k (),m,n,tk⟩ {s with heap:=s.heap.update a f}):bB M B ⟨Γ,p,κ,.update a kE f k,m',n',a8⟩ s:=by cases κ with | nil=>exact B.update e h | cons _ _=>exact ⟨e,h⟩
theorem bB.alloc {k:Addr->Sem Fin}(e:s.heap.objs.size=a) (h:bB M B ⟨Γ,p,κ,k a,m,n,tk⟩ {s with heap:=s.heap.push o}):bB M B ⟨Γ,p,κ,.alloc o k,m',n',a8⟩ s:=by subst e;cases κ with | nil=>exact B.alloc h | cons _ _=>exact h
theorem bB.genState {st:GenState}{k:GenStatus×Option (List (Code×Pos))->Sem Fin}{z:GenStatus×Option (List (Code×Pos))}(e:s.gens[g]?=some st) (ez:st.seen=z) (h:bB M B ⟨Γ,p,κ,k z,m,n,tk⟩ s):bB M B ⟨Γ,p,κ,.genState g k,m',n',a8⟩ s:=by subst ez;cases κ with | nil=>exact B.genState e h | cons _ _=>exact ⟨st,e,h⟩
theorem bB.call {c:Code}{l:List Value}{k:Result->Sem Fin}(h:wpCode M (Γ.enter c hd p) (post M B ⟨Γ,p,k⟩ κ) p s):bB M B ⟨Γ,p,κ,.call c hd gd l k,m',n',a8⟩ s:=by
 cases κ with
 | nil=>exact B.call h
 | cons _ _=>exact h
theorem bB.again {c:Code}(q:c.quiet=true) (h:bB M B ⟨Γ.goto c,p,κ,M.den c,m,n,tk⟩ s):bB M B ⟨Γ,p,κ,.pure (.again c),m',n',a8⟩ s:=by
 cases κ with
 | nil=>exact B.again q h
 | cons _ _=>exact ⟨q,(wpCode_iff_wp _ _ _ _ _).mpr h⟩
end
noncomputable def Ok (E:En) (V:Heap) (U:Nat) (B:m7 (Mo E) E.nb) (d:Drawn) (os:OsState) (o:List (Ask->fm)->dI) (c:fH):Prop:=
 ∀ τ:cY,τ.Runs o []->τ.Valid E V U d os->τ.Fin (gI E V U B d os) o->gI E V U B d os c
section
variable {B:m7 (Mo E) E.nb}{ih:Ih}{o:List (Ask->fm)->dI}{c c':fH}
theorem Ok.stop:Ok E V U B d os (fun _=>stop c) c:=fun _ hL _ hc=>cY.fin_stop hL hc
theorem Ok.map (h:Ok E V U B d os o c') (f:gI E V U B d os c'->gI E V U B d os c):Ok E V U B d os o c:=fun τ hL hv hc=>f (h τ hL hv hc)
theorem Ok.tie (h:a=b->Ok E V U B d os o c):Ok E V U B d os (fun l=>tie a b (o l)) c:=fun τ hL hv hc=>h (cY.runs_tie hL).1 τ (cY.runs_tie hL).2 hv (cY.fin_tie hc)
variable (IH:lO E V U B d os ih)
include IH
theorem lO.ok (hs:List Nat) (c:fH):Ok E V U B d os (fun as=>ih hs as c) c:=fun τ=>IH τ hs c
theorem Ok.pop {r:Result}{κ:List Fm}:Ok E V U B d os (fun as=>Mine.pop ih hs as r ⟨Γ,p,κ,leafOf r,m,n,tk⟩) ⟨Γ,p,κ,leafOf r,m,n,tk⟩:=by
 cases κ with
 | nil=>exact .stop
 | cons f κ=>
  refine (IH.ok hs ⟨f.Γ,f.p,κ,f.k r,m,n,tk⟩).map fun z h g hg hr=>?_
  have z:=z h g hg hr
  cases κ with
  | nil=>cases r<;>exact z
  | cons f' κ=>cases r<;>exact z
theorem Ok.ask {q:Ask}{f:Fm}{κ:List Fm}(hq:q.Γ.code=q.code)
  (F:(∀ h g,E.G g->Rep E V U q.m q.n h->wpCode (Mo E) q.Γ (post (Mo E) B f κ) q.p ⟨h,g,d,q.tk,os⟩)->gI E V U B d os c):
  Ok E V U B d os (fun as=>match as with | []=>Mine.stop c | a::rA=>ti ih a rA q (f::κ)) c:=by
 intro τ hL hv hc
 cases τ with
 | nil=>exact hc
 | cons x e ans says rest=>
  exact F fun h g hg hr=>hv.1 q _ h g (cY.runs_emit (o:=fun l=>ih (ans x q).hs l ⟨q.Γ,(ans x q).p,f::κ,(ans x q).t,(ans x q).m,(ans x q).n,(ans x q).tk⟩) (hL x)).1 hq hg hr fun y sy h' g' bn bS=>
   IH (rest y) (ans y q).hs ⟨q.Γ,(ans y q).p,f::κ,(ans y q).t,(ans y q).m,(ans y q).n,(ans y q).tk⟩
    (cY.runs_emit (a:=q) (e:=e) (o:=fun l=>ih (ans y q).hs l ⟨q.Γ,(ans y q).p,f::κ,(ans y q).t,(ans y q).m,(ans y q).n,(ans y q).tk⟩) (hL y)).2 (hv.2 y sy)
    (cY.fin_emit (a:=q) (o:=fun l=>ih (ans y q).hs l ⟨q.Γ,(ans y q).p,f::κ,(ans y q).t,(ans y q).m,(ans y q).n,(ans y q).tk⟩) (hc y sy)) h' g' bn bS
theorem Ok.again {κ:List Fm}{c':Code}:Ok E V U B d os (fun as=>n5 E ih (x::hs) as ⟨Γ,p,κ,.pure (.again c'),m,n,tk⟩) ⟨Γ,p,κ,.pure (.again c'),m,n,tk⟩:=by
 cases x with
 | zero=>
  show Ok E V U B d os (fun as=>match c'.quiet with
   | true=>ih hs as ⟨Γ.goto c',p,κ,den c',m,n,tk⟩
   | false=>Mine.stop _) _
  cases q:c'.quiet with
  | false=>exact .stop
  | true=>
   refine (IH.ok hs _).map fun z h g hg hr=>?_
   have z:=z h g hg hr
   rw [n4] at z
   exact bB.again q z
 | succ y=>
  show Ok E V U B d os (fun as=>match c'.quiet with
   | true=>match y with
    | 0=>match κ with
     | []=>Mine.stop _
     | _::_=>match as with
      | []=>Mine.stop _
      | a::rA=>ti ih a rA ⟨Γ.goto c',c',p,m,n,tk⟩ κ
    | y+1=>match y with
     | 0=>match AV (lD κ) E.nb with
      | true=>match nr E c' with
       | some t=>ih hs as ⟨Γ.goto c',p,κ,t,m,n,tk⟩
       | none=>Mine.stop _
      | false=>Mine.stop _
     | _+1=>Mine.stop _
   | false=>Mine.stop _) _
  cases q:c'.quiet with
  | false=>exact .stop
  | true=>
   cases y with
   | zero=>
    cases κ with
    | nil=>exact .stop
    | cons f κ=>exact Ok.ask IH (q:=⟨Γ.goto c',c',p,m,n,tk⟩) rfl fun z h g hg hr=>⟨q,z h g hg hr⟩
   | succ y=>
    cases y with
    | succ _=>exact .stop
    | zero=>
     show Ok E V U B d os (fun as=>match AV (lD κ) E.nb with
      | true=>match nr E c' with
       | some t=>ih hs as ⟨Γ.goto c',p,κ,t,m,n,tk⟩
       | none=>Mine.stop _
      | false=>Mine.stop _) _
     cases q3:AV (lD κ) E.nb with
     | false=>exact .stop
     | true=>
      cases q2:nr E c' with
      | none=>exact .stop
      | some t=>
       refine (IH.ok hs _).map fun z h g hg hr=>?_
       have z:=z h g hg hr
       cases κ with
       | nil=>exact B.sup q3 q (fun Q X hw=>kF (Γ:=Γ.goto c') q2 hw) z
       | cons f κ=>exact ⟨q,(wpCode_iff_wp _ _ _ _ _).mpr (kF (Γ:=Γ.goto c') q2 z)⟩
theorem Ok.obj {C:Obj->fH}(F:∀ o,(∀ h,Rep E V U m (C o).n h->h.get? a=some o)->(C o).m=m->gI E V U B d os (C o)->gI E V U B d os c) (hm:∀ o,(C o).m=m):
  Ok E V U B d os (fun as=>match x with
   | 0=>match g8 a E.mu with
    | true=>Mine.stop c
    | false=>match E.T.get a with
     | some o=>ih hs as (C o)
     | none=>Mine.stop c
   | i+1=>match Y m i with
    | some x=>Mine.tie a x.1 (ih hs as (C x.2))
    | none=>Mine.stop c) c:=by
 cases x with
 | zero=>
  show Ok E V U B d os (fun as=>match g8 a E.mu with
    | true=>Mine.stop c
    | false=>match E.T.get a with
     | some o=>ih hs as (C o)
     | none=>Mine.stop c) c
  cases q:g8 a E.mu with
  | true=>exact .stop
  | false=>
   cases q2:E.T.get a with
   | none=>exact .stop
   | some o=>exact (IH.ok hs _).map (F o (fun h hr=>hr.base a o q2 q) (hm o))
 | succ i=>
  show Ok E V U B d os (fun as=>match Y m i with
    | some x=>Mine.tie a x.1 (ih hs as (C x.2))
    | none=>Mine.stop c) c
  cases q:Y m i with
  | none=>exact .stop
  | some x=>
   refine .tie fun e=>?_
   subst e
   exact (IH.ok hs _).map (F x.2 (fun h hr=>hr.own i x.1 x.2 q) (hm _))
end
theorem step_sound {B:m7 (Mo E) E.nb}{ih:Ih}(IH:lO E V U B d os ih):lO E V U B d os (n5 E ih):=by
 intro τ hs c
 suffices h:Ok E V U B d os (fun as=>n5 E ih hs as c) c from h τ
 clear τ
 obtain ⟨Γ,p,κ,t,m,n,tk⟩:=c
 cases t with
 | pure fin=>
  cases fin with
  | done f=>exact Ok.pop IH (r:=.ok f)
  | again c'=>
   cases hs with
   | nil=>exact .stop
   | cons x ca=>exact Ok.again IH
 | raise e=>exact Ok.pop IH (r:=.error e)
 | rule AW k=>exact (IH.ok hs _).map fun z h g hg hr=>bB.rule (z h g hg hr)
 | point l k=>exact (IH.ok hs _).map fun z h g hg hr=>bB.point (z h g hg hr)
 | «at» q k=>exact (IH.ok hs _).map fun z h g hg hr=>bB.at_ (z h g hg hr)
 | ask k=>exact (IH.ok hs _).map fun z h g hg hr=>bB.ask (z h g hg hr)
 | fresh k=>exact (IH.ok hs _).map fun z h g hg hr=>bB.fresh (z h g hg hr)
 | handled own k=>cases own<;>exact (IH.ok hs _).map fun z h g hg hr=>bB.handled (z h g hg hr)
 | stack k=>exact (IH.ok hs _).map fun z h g hg hr=>bB.stack (z h g hg hr)
 | thread k=>exact (IH.ok hs _).map fun z h g hg hr=>bB.thread (z h g hg hr)
 | load a kE k=>
  cases hs with
  | nil=>exact .stop
  | cons x ca=>exact Ok.obj IH (C:=fun o=>⟨Γ,p,κ,k o,m,n,tk⟩) (fun o ho _ z h g hg hr=>bB.load (ho h hr) (z h g hg hr)) fun _=>rfl
 | loadIfAlive a k=>
  cases hs with
  | nil=>exact .stop
  | cons x ca=>exact Ok.obj IH (C:=fun o=>⟨Γ,p,κ,k (some o),m,n,tk⟩) (fun o ho _ z h g hg hr=>bB.loadIfAlive (ho h hr) (z h g hg hr)) fun _=>rfl
 | update a kE f k=>
  cases hs with
  | nil=>exact .stop
  | cons x ca=>
   cases x with
   | zero=>exact .stop
   | succ i=>
    show Ok E V U B d os (fun as=>match Y m i with
     | some x=>match (f x.2).isFreed with
      | false=>tie a x.1 (ih ca as ⟨Γ,p,κ,k (),aK m i (f x.2),n,tk⟩)
      | true=>stop _
     | none=>stop _) _
    cases q:Y m i with
    | none=>exact .stop
    | some x=>
     show Ok E V U B d os (fun as=>match (f x.2).isFreed with
      | false=>tie a x.1 (ih ca as ⟨Γ,p,κ,k (),aK m i (f x.2),n,tk⟩)
      | true=>stop _) _
     cases q2:(f x.2).isFreed with
     | true=>exact .stop
     | false=>
      refine .tie fun e=>?_
      subst e
      refine (IH.ok ca _).map fun z h g hg hr=>?_
      obtain ⟨u,r'⟩:=hr.update q q2
      exact bB.update u (z _ g hg r')
 | alloc o k=>
  show Ok E V U B d os (fun as=>match o.isFreed with
   | false=>ih hs as ⟨Γ,p,κ,k n,bh m (n,o),n+1,tk⟩
   | true=>stop _) _
  cases q:o.isFreed with
  | true=>exact .stop
  | false=>exact (IH.ok hs _).map fun z h g hg hr=>bB.alloc hr.size (z _ g hg (hr.push q))
 | call c' hd gd l k=>
  cases hs with
  | nil=>exact .stop
  | cons x ca=>
   cases x with
   | succ _=>exact Ok.ask IH (q:=⟨Γ.enter c' hd p,c',p,m,n,tk⟩) (f:=⟨Γ,p,k⟩) rfl fun z h g hg hr=>bB.call (z h g hg hr)
   | zero=>
    refine (IH.ok ca ⟨Γ.enter c' hd p,p,⟨Γ,p,k⟩::κ,den c',m,n,tk⟩).map fun z h g hg hr=>?_
    have z:=z h g hg hr
    refine bB.call ?_
    refine (wpCode_iff_wp _ _ _ _ _).mpr ?_
    rw [n4] at z
    exact z
 | genState g k=>
  show Ok E V U B d os (fun as=>match E.gs with
   | some x=>tie g x.1 (ih hs as ⟨Γ,p,κ,k x.2,m,n,tk⟩)
   | none=>stop _) _
  cases q:E.gs with
  | none=>exact .stop
  | some x=>
   refine .tie fun e=>?_
   subst e
   refine (IH.ok hs _).map fun z h ga hg hr=>?_
   obtain ⟨st,e1,e2⟩:=E.hgs x q ga hg
   exact bB.genState e1 e2 (z h ga hg hr)
 | _=>exact .stop
theorem o9 (aP:Nat) {B:m7 (Mo E) E.nb}:lO E V U B d os (run E aP):=by
 induction aP with
 | zero=>exact fun τ hs c hL hv hc=>cY.fin_stop hL hc
 | succ n ih=>exact step_sound ih
theorem rD (gJ:E.nb=true) (aP:Nat) (τ:cY) (hs:List Nat) (c:fH) (h1:τ.Runs (fun as=>run E aP hs as c) []) (h2:τ.Valid E V U d os) (h3:τ.Fin (Well E V U R d os) (fun as=>run E aP hs as c)):Well E V U R d os c:=by
 obtain ⟨prog,w,T,mu,G,nb,gs,hgs⟩:=E
 cases gJ
 exact o9 (E:=⟨prog,w,T,mu,G,true,gs,hgs⟩) (B:=Cw _ true R) aP τ hs c h1 h2 h3
end
end
theorem fE:∀ (l:Mm) (i:Nat) (o:Obj),ah (aK l i o)=ah l
 | [],_,_=>rfl
 | _::_,0,_=>rfl
 | _::r,i+1,o=>congrArg Nat.succ (fE r i o)
theorem gh:∀ (l:Mm) (y:Addr×Obj),ah (bh l y)=ah l+1
 | [],_=>rfl
 | _::r,y=>congrArg Nat.succ (gh r y)
theorem ik:∀ (l:Mm) (i:Nat),i < ah l->∃ x,Y l i=some x
 | [],_,h=>absurd h (Nat.not_lt_zero _)
 | x::_,0,_=>⟨x,rfl⟩
 | _::r,i+1,h=>ik r i (Nat.lt_of_succ_lt_succ h)
noncomputable def aZ (m:Mm):List Nat->Mm
 | []=>[]
 | i::is=>match Y m i with
  | some x=>x::aZ m is
  | none=>aZ m is
theorem il {m:Mm}:∀ {is:List Nat},(∀ i∈is,i < ah m)->∀ j,Y (aZ m is) j=(is[j]?).bind (Y m)
 | [],_,j=>rfl
 | i::is,hv,j=>by
  obtain ⟨x,hx⟩:=ik m i (hv i (.head _))
  have e:aZ m (i::is)=x::aZ m is:=by show (match Y m i with | some x=>x::aZ m is | none=>aZ m is)=_;rw [hx]
  rw [e]
  cases j with
  | zero=>show some x=Y m i;exact hx.symm
  | succ j=>show Y (aZ m is) j=_;rw [il (fun k q=>hv k (.tail _ q)) j];rfl
theorem jB {m:Mm}:∀ {is:List Nat},(∀ i∈is,i < ah m)->ah (aZ m is)=is.length
 | [],_=>rfl
 | i::is,hv=>by
  obtain ⟨x,hx⟩:=ik m i (hv i (.head _))
  have e:aZ m (i::is)=x::aZ m is:=by show (match Y m i with | some x=>x::aZ m is | none=>aZ m is)=_;rw [hx]
  rw [e];exact congrArg Nat.succ (jB (fun k q=>hv k (.tail _ q)))
section
variable {E:En}{V:Heap}{U:Nat}{m:Mm}{n:Nat}{h:Heap}
theorem Rep.lt (r:Rep E V U m n h) {i:Nat}{a:Addr}{o:Obj}(e:Y m i=some (a,o)):a < n:=r.size▸Heap.lt_size (r.own i a o e)
theorem Rep.sub (r:Rep E V U m n h) (is:List Nat) (hv:∀ i∈is,i < ah m) (nd:is.Nodup):Rep E h is.length (aZ m is) n h:=by
 have get:∀ j x,Y (aZ m is) j=some x->∃ i,is[j]?=some i/\Y m i=some x:=by
  intro j x e
  rw [il hv] at e
  cases q:is[j]? with
  | none=>rw [q] at e;cases e
  | some i=>rw [q] at e;exact ⟨i,rfl,e⟩
 refine ⟨r.size,r.base,fun i a o e=>?_,fun i j a o o' e e'=>?_,fun i a o e=>?_,fun b o e _=>e,by rw [r.size];exact Nat.le_refl _,fun i a o hi e=>?_,by rw [jB hv];exact Nat.le_refl _,r.lowT⟩
 ·obtain ⟨k,_,e⟩:=get i _ e
  exact r.own k a o e
 ·obtain ⟨k,q,e⟩:=get i _ e
  obtain ⟨k',q',e'⟩:=get j _ e'
  have:=r.apart k k' a o o' e e'
  subst this
  have hi:i < is.length:=(List.getElem?_eq_some_iff.mp q).1
  exact (List.getElem?_inj hi nd).mp (q.trans q'.symm)
 ·obtain ⟨k,_,e⟩:=get i _ e
  exact r.off k a o e
 ·have:=dU _ _ _ e
  rw [jB hv] at this
  lia
theorem Rep.know (r:Rep E V U m n h) {b:Addr}{o:Obj}(e:h.get? b=some o) (hb:V.objs.size<=b) (hm:∀ i o',Y m i≠some (b,o')) (ht:E.T.get b=none):Rep E V U (bh m (b,o)) n h:=by
 refine ⟨r.size,r.base,fun i a o' q=>?_,fun i j a o1 o2 q1 q2=>?_,fun i a o' q=>?_,fun c o' q z=>r.keep c o' q fun i a n6 hi g=>z i a n6 hi ?_,r.start,fun i a o' hi q=>?_,by rw [gh];exact Nat.le_succ_of_le r.old,r.lowT⟩
 ·rw [av] at q
  split at q
  ·cases q;exact e
  ·exact r.own i a o' q
 ·rw [av] at q1 q2
  split at q1<;>split at q2
  ·lia
  ·cases q1;exact absurd q2 (hm j o2)
  ·cases q2;exact absurd q1 (hm i o1)
  ·exact r.apart i j a o1 o2 q1 q2
 ·rw [av] at q
  split at q
  ·cases q;exact .inr ht
  ·exact r.off i a o' q
 ·rw [av,if_neg (by have:=r.old;lia)];exact g
 ·rw [av] at q
  split at q
  ·cases q;exact hb
  ·exact r.fresh i a o' hi q
end
noncomputable def pk (l:List Ask):Nat->Ask:=
 @List.rec Ask (fun _=>Nat->Ask) (fun _=>⟨⟨.block [] default,none,none,[],none⟩,.block [] default,default,[],0,0⟩) (fun x _ ih i=>@Nat.rec (fun _=>Ask) x (fun j _=>ih j) i) l
inductive g9
 | done (f:Flow)
 | raise (e:Value)
 | again (c:Code)
 | other
inductive nv:Sem Fin->g9->Prop
 | done (f:Flow):nv (.pure (.done f)) (.done f)
 | again (c:Code):nv (.pure (.again c)) (.again c)
 | raise (e:Value):nv (.raise e) (.raise e)
 | other (t:Sem Fin):nv t .other
noncomputable def Cx:(t:Sem Fin)->{g:g9 // nv t g}
 | .pure (.done f)=>⟨.done f,.done f⟩
 | .pure (.again c)=>⟨.again c,.again c⟩
 | .raise e=>⟨.raise e,.raise e⟩
 | t=>⟨.other,.other t⟩
noncomputable def lP (t:Sem Fin):g9:=(Cx t).1
theorem Dq {t:Sem Fin}{g:g9}(h:lP t=g):nv t g:=h▸(Cx t).2
theorem wc {Γ Δ:Ctx}(h:Γ.goto default=Δ.goto default) (x:Code):Γ.goto x=Δ.goto x:=by
 obtain ⟨a,b,c,d,e⟩:=Γ
 obtain ⟨a',b',c',d',e'⟩:=Δ
 simp only [Ctx.goto,Ctx.mk.injEq,true_and] at h ⊢
 exact h
section
variable {E:En}{V:Heap}{U:Nat}{R:Result->Shared->Prop}{d:Drawn}{os:OsState}
theorem bc {Γ:Ctx}{p:Pos}{m:Mm}{n tk:Nat}{h:Heap}{g:Array GenState}(hg:E.G g) (hr:Rep E V U m n h)
  (w:Well E V U R d os ⟨Γ,p,[],den Γ.code,m,n,tk⟩):wpCode (Mo E) Γ R p ⟨h,g,d,tk,os⟩:=by
 refine (wpCode_iff_wp _ _ _ _ _).mpr ?_
 have z:=w h g hg hr
 rw [cO] at z
 rw [n4] at z
 exact z
end
section
open PySem PySem.W PySem.W.X PySem.Calls PyProof.Rows
noncomputable abbrev ur:Ctx:=⟨.builtin "claim.caller" {},none,none,[],none⟩
noncomputable def im (name : Str) (vs : List Value) : Sem Fin := do
  match <- nsGet mainNs name with
  | some f => do ret (<- PySem.call f vs)
  | none => unsupported "claim.caller:no-such-global"
structure lQ (cg:Shared) (r:Result) (s':Shared):Prop where
 val:r=.ok (.ret (.bool true))
 old:OldK cg.heap s'.heap
 os:s'.os=cg.os
 bare:AllBare s'.gens
noncomputable def dV (x:Int×Tok):Value:=.int x.1 x.2
noncomputable def fg (cF:List Value):Obj:={cls:=.type "list",data:=.seq cF.toArray}
theorem pq {l:OpenLaw}(hm:l.most=some 63) (Dr:l.bound=none) {w:World}{s₀ cg:Shared}{args:List WData}{vs:List Value}{as:List Addr}
  (gU:l.row.claim.pre args=true) (nw:WData.layableAll args=true) (L:Laid [] w s₀ cg args vs as) (wd:sysModules < s₀.heap.objs.size):
  ∃ cF:List (Int×Tok),cF.length<=63/\vs=[.ref s₀.heap.objs.size]/\cg.heap.get? s₀.heap.objs.size=some (fg (cF.map dV))/\cg.heap.objs.size=s₀.heap.objs.size+1/\s₀.toks<=cg.toks:=by
 have Ds:=L.reads
 have Ir:=L.well
 have Dt:=L.low wd
 have gU:(WShape.hasAll [] args [.list .int]&&l.pre.holds [] {args:=args})=true:=gU
 unfold OpenLaw.pre at gU
 rw [hm,Dr] at gU
 dsimp only at gU
 have Is:=(Bool.and_eq_true_iff.mp gU).1
 have Du:=(Bool.and_eq_true_iff.mp gU).2
 wrow_hasAll Is nw
 wrow_readAll Ds Ir Dt
 w_cond Du
 rename_i ns _ _ _ _ _ _ _ _ a vs _ hL _ _ _ hI _ hc _
 obtain ⟨rv,ax⟩:=script_at L
 have ho:=script_obj L hL
 subst rv
 have z:∀ (vs:List Value) (ns:List Int),IntsAre vs ns->∃ cF:List (Int×Tok),cF.length=ns.length/\vs=cF.map dV:=by
  intro vs ns h
  induction h with
  | nil=>exact ⟨[],rfl,rfl⟩
  | cons n t _ ih=>
   obtain ⟨cF,h1,h2⟩:=ih
   exact ⟨(n,t)::cF,by rw [List.length_cons,List.length_cons,h1],by rw [h2];rfl⟩
 obtain ⟨cF,h1,h2⟩:=z _ _ hI
 refine ⟨cF,by rw [h1];lia,rfl,?_,ax,script_toks L rfl⟩
 rw [ho,h2];rfl
noncomputable def n7:List Nat->Bool
 | []=>true
 | a::l=>(l.all fun b=>!Nat.beq a b)&&n7 l
theorem gi:∀ (m:Mm) (i:Nat) (x:Addr×Obj),Y m i=some x->x∈m
 | [],_,_,h=>nomatch h
 | y::_,0,x,h=>by cases (show some y=some x from h);exact .head _
 | _::r,i+1,x,h=>.tail _ (gi r i x h)
theorem ny:∀ (m:Mm),n7 (m.map (·.1))=true->∀ i j a o o',Y m i=some (a,o)->Y m j=some (a,o')->i=j
 | [],_,_,_,_,_,_,h,_=>nomatch h
 | x::m,e,0,0,_,_,_,_,_=>rfl
 | x::m,e,0,j+1,a,o,o',h1,h2=>by
  have e1:=(Bool.and_eq_true_iff.mp e).1
  cases (show some x=some (a,o) from h1)
  have:=List.all_eq_true.mp e1 a (List.mem_map_of_mem (f:=(·.1)) (gi m j _ h2))
  simp at this
 | x::m,e,i+1,0,a,o,o',h1,h2=>by
  have e1:=(Bool.and_eq_true_iff.mp e).1
  cases (show some x=some (a,o') from h2)
  have:=List.all_eq_true.mp e1 a (List.mem_map_of_mem (f:=(·.1)) (gi m i _ h1))
  simp at this
 | x::m,e,i+1,j+1,a,o,o',h1,h2=>congrArg (·+1) (ny m (Bool.and_eq_true_iff.mp e).2 i j a o o' h1 h2)
theorem lR:∀ m:Mm,ah m=m.length
 | []=>rfl
 | _::m=>congrArg (·+1) (lR m)
structure rE (h:Heap) (os:OsState) (r:Result) (s':Shared):Prop where
 val:r=.ok (.ret (.bool true))
 old:OldK h s'.heap
 os:s'.os=os
 bare:AllBare s'.gens
end
noncomputable def gj (target : Expr) (it v : Value) (body ba : List Stmt) (env : Env) : Sem Fin :=
  (do letOwnedTupleGo target it v
      assign target env v
      match <- execs body env with
      | .next | .cont => again (.forLoop target it body ba env)
      | .brk => pure (.done .next)
      | .ret v => pure (.done (.ret v)) : Sem Fin).onRaise (fun x => do noteFrame x env; theTreesLotGoes x)
theorem n8 {M : Model} {Γ : Ctx} {target : Expr} {it : Value} {body ba : List Stmt} {env : Env} {Q : Fin -> Pos -> Shared -> Prop} {E : Value -> Pos -> Shared -> Prop} {p : Pos} {s : Shared}
    (h : wp M Γ (pyNext it) (fun o p s => match o with
      | none => Q (.again (.block ba env)) p s
      | some v => wp M Γ (gj target it v body ba env) Q E p s) (fun _ _ _ => False) target.pos s) :
    wp M Γ (denote table (.forLoop target it body ba env)) Q E p s := by
  show wp M Γ ((forTurn target it body ba env).onRaise (fun x => do noteFrame x env; theTreesLotGoes x)) Q E p s
  unfold forTurn
  simp only [Sem.wp_onRaise, Sem.wp_bind', Sem.wp_cmd_standAt]
  refine Sem.wp_mono M Γ _ (fun o p' s' h => ?_) (fun _ _ _ h => h.elim) _ _ h
  cases o with
  | none => exact h
  | some v =>
    unfold gj at h
    simp only [Sem.wp_onRaise, Sem.wp_bind'] at h ⊢
    exact h
noncomputable def gk (target : Expr) (it v : Value) (body ba : List Stmt) (env : Env) : Sem Fin :=
  (do assign target env v
      match <- execs body env with
      | .next | .cont => again (.forLoop target it body ba env)
      | .brk => pure (.done .next)
      | .ret v => pure (.done (.ret v)) : Sem Fin).onRaise (fun x => do noteFrame x env; theTreesLotGoes x)
theorem kG {M:Model}{Γ:Ctx}{target:Expr}{it v:Value}{body ba:List Stmt}{env:Env}{Q:Fin->Pos->Shared->Prop}{E:Value->Pos->Shared->Prop}{p:Pos}{s:Shared}
  (h:wp M Γ (letOwnedTupleGo target it v) (fun _ p s=>wp M Γ (gk target it v body ba env) Q E p s) (fun _ _ _=>False) p s):
  wp M Γ (gj target it v body ba env) Q E p s:=by
 unfold gj
 unfold gk at h
 simp only [Sem.wp_onRaise,Sem.wp_bind'] at h ⊢
 exact Sem.wp_mono M Γ _ (fun _ p' s' h=>h) (fun _ _ _ h=>h.elim) _ _ h
noncomputable def gm (target:Expr) (it v:Value) (body ba:List Stmt) (env:Env):Sem Fin:=
 R.onRaiseR (R.bindR (Fast.tw17772580674575903948 target env v) fun _=>R.bindR (Fast.tw12563942051412417395 body env) fun fl=>
  match fl with
  | .next | .cont=>.pure (.again (.forLoop target it body ba env))
  | .brk=>.pure (.done .next)
  | .ret v=>.pure (.done (.ret v))) fun x=>R.bindR (Fast.tw17872113653443481271 x env) fun _=>Fast.tw1623429502029203251 x
theorem gK:gk=gm:=by
 funext target it v body ba env
 unfold gk gm
 rw [<- R.bindR_eq,<- R.onRaiseR_eq,<- Fast.te17772580674575903948,<- Fast.te12563942051412417395,<- Fast.te17872113653443481271,<- Fast.te1623429502029203251]
 rfl
noncomputable def gn (e gq : Expr) (g : Comprehension) (it acc v : Value) (env : Env) : Sem Fin :=
  (do letOwnedTupleGo g.target it v
      assign g.target env v
      let mut ok := true
      for c in g.ifs do
        if ok then ok <- isTrue c env (eval c env)
      if ok then
        (do let _ <- call (.builtin "list.append") [acc, <- eval gq env]
            pure () : Sem Unit)
        again (.compLoop e 0 it acc env)
      else again (.compLoop e 0 it acc env) : Sem Fin).onRaise (fun x => do noteFrame x env; theTreesLotGoes x)
theorem pv {M : Model} {Γ : Ctx} {gq : Expr} {g : Comprehension} {sc : Scope} {pos : Pos} {it acc : Value} {env : Env} {Q : Fin -> Pos -> Shared -> Prop} {E : Value -> Pos -> Shared -> Prop} {p : Pos} {s : Shared}
    (ha : (g.is_async != 0) = false) (hf : (Code.compLoop (.ListComp gq [g] sc pos) 0 it acc env).isFrame = false)
    (h : wp M Γ (pyNext it) (fun o p s => match o with
      | none => Q (.done .next) p s
      | some v => wp M Γ (gn (.ListComp gq [g] sc pos) gq g it acc v env) Q E p s) (fun _ _ _ => False) g.iter.pos s) :
    wp M Γ (denote table (.compLoop (.ListComp gq [g] sc pos) 0 it acc env)) Q E p s := by
  have e : denote table (.compLoop (.ListComp gq [g] sc pos) 0 it acc env) = if (Code.compLoop (.ListComp gq [g] sc pos) 0 it acc env).isFrame then (compTurn (.ListComp gq [g] sc pos) 0 it acc env).onRaise (leaving env) else (compTurn (.ListComp gq [g] sc pos) 0 it acc env).onRaise (fun x => do noteFrame x env; theTreesLotGoes x) := rfl
  rw [e, hf]
  simp only [Bool.false_eq_true, if_false]
  unfold compTurn
  simp only [Sem.wp_onRaise, Sem.wp_bind', Sem.wp_cmd_standAt, List.getElem?_cons_zero, ha, Bool.false_eq_true, if_false]
  refine Sem.wp_mono M Γ _ (fun o p' s' h => ?_) (fun _ _ _ h => h.elim) _ _ h
  cases o with
  | none => exact h
  | some v =>
    unfold gn at h
    simp only [Sem.wp_onRaise, Sem.wp_bind'] at h ⊢
    exact h
noncomputable def fI (env:Env):List Expr->Bool->Sem Bool
 | [],ok=>pure ok
 | c::cs,ok=>(match ok with | true=>isTrue c env (eval c env) | false=>pure false)>>=fun fq=>fI env cs fq
theorem n9 {M : Model} {Γ : Ctx} {env : Env} {E : Value -> Pos -> Shared -> Prop} : ∀ (cs : List Expr) (ok : Bool) (Q : Bool -> Pos -> Shared -> Prop) (p : Pos) (s : Shared), wp M Γ (fI env cs ok) Q E p s ->
    wp M Γ (forIn cs ok fun c b => if b = true then (do let ok <- isTrue c env (eval c env); pure (ForInStep.yield ok)) else pure (ForInStep.yield b)) Q E p s
  | [], ok, Q, p, s, h => h
  | c :: cs, ok, Q, p, s, h => by
    rw [List.forIn_cons, Sem.wp_bind']
    cases ok with
    | true =>
      have h : wp M Γ (isTrue c env (eval c env) >>= fun fq => fI env cs fq) Q E p s := h
      rw [Sem.wp_bind'] at h
      simp only [if_true, Sem.wp_bind', Sem.wp_pure']
      exact Sem.wp_mono M Γ _ (fun b p' s' h => n9 cs b Q p' s' h) (fun _ _ _ h => h) _ _ h
    | false =>
      have h : wp M Γ ((pure false : Sem Bool) >>= fun fq => fI env cs fq) Q E p s := h
      rw [Sem.wp_bind', Sem.wp_pure'] at h
      simp only [Bool.false_eq_true, if_false, Sem.wp_pure']
      exact n9 cs false Q p s h
noncomputable def iJ (env:Env) (l:List Expr):Bool->Sem Bool:=
 @List.rec Expr (fun _=>Bool->Sem Bool) (fun ok=>.pure ok) (fun c _ ih ok=>R.bindR (@Bool.rec (fun _=>Sem Bool) (.pure false) (Fast.tw15418851999007992765 c env (Fast.tw14044960220447912780 c env)) ok) ih) l
theorem jC (env:Env):∀ (cs:List Expr) (ok:Bool),fI env cs ok=iJ env cs ok
 | [],_=>rfl
 | c::cs,ok=>by
  show ((match ok with | true=>isTrue c env (eval c env) | false=>pure false)>>=fun fq=>fI env cs fq)=R.bindR (@Bool.rec (fun _=>Sem Bool) (.pure false) (Fast.tw15418851999007992765 c env (Fast.tw14044960220447912780 c env)) ok) (iJ env cs)
  rw [<- R.bindR_eq,<- Fast.te15418851999007992765,<- Fast.te14044960220447912780]
  have:(fun fq=>fI env cs fq)=iJ env cs:=funext fun b=>jC env cs b
  rw [this]
  cases ok<;>rfl
section
variable {prog:Program}{w:World}{A:Around}{E:Value->Shared->Prop}{s:Shared}
theorem eU {it d:Addr}{i n ep:Nat}{od:Obj}{es:Array DictEntry}{e:DictEntry}{ok ov:Value}{Q:Option Value->Shared->Prop}(hit:IsItemIter s.heap it d i n ep ok ov)
  (cZ:s.heap.get? d=some od) (bT:od.data=.dict es ep) (ax:es.size=n) (hx:es[i]?=some e)
  (hQ:∀ h',IsItemIterOut h' it d (i+1) n ep e.key e.val s.heap.objs.size->
   h'.get? s.heap.objs.size=some {cls:=.type "tuple",data:=.seq #[e.key,e.val]}->h'.objs.size=s.heap.objs.size+1->
   (∀ b o,b≠it->s.heap.get? b=some o->h'.get? b=some o)->Q (some (.ref s.heap.objs.size)) {s with heap:=h'}):
  wpAny (model prog w) A (pyNext (.ref it)) Q E s:=by
 obtain ⟨hp,g,dr,tk,os⟩:=s
 have hT:Shared.TypeIs ⟨hp,g,dr,tk,os⟩ (.ref it) "dict_itemiterator":=⟨_,hit,rfl⟩
 have iR:i < es.size:=(Array.getElem?_eq_some_iff.mp hx).1
 have Kr:es[i]=e:=(Array.getElem?_eq_some_iff.mp hx).2
 unfold pyNext
 refine wpAny_bind (wpAny_attempt (wpAny_callSpecial?_slot (name:=Str.ofString "__next__") hT F.slot_dict_itemiterator_next
  (wpAny_call_entry F.slot_dict_itemiterator_next hT F.entry_dict_itemiterator_next ?_ (F.args_dict_itemiterator_next_1 _))))
 refine wpAny_bind (wpAny_pure ?_)
 refine wpAny_bind ?_
 refine wpAny_bind ?_
 first | refine wpAny_bind (wpAny_typeNameOfWhole_itemiter hT (wpAny_pure ?_)) | refine wpAny_bind (wpAny_typeNameOf_itemiter hT (wpAny_pure ?_))
 refine wpAny_bind (wpAny_fieldsOf hit rfl ?_)
 have dJ:Builtin.Dict_items.ownsTuple "dict_itemiterator"=true:=by decide
 simp only [dJ,if_true]
 show wpAny _ _ (if (Value.ref d==Value.none)=true then _ else _) _ _ _
 rw [if_neg (show ¬ ((Value.ref d==Value.none)=true) from Bool.false_ne_true)]
 refine wpAny_bind (wpAny_pure ?_)
 refine wpAny_bind (wpAny_dictEntries cZ bT ?_)
 rw [if_neg (by rw [ax];simp)]
 refine wpAny_bind (wpAny_pure ?_)
 refine wpAny_bind (wpAny_dictEpoch cZ bT ?_)
 rw [if_neg (by simp)]
 refine wpAny_pure ?_
 simp only [show ¬ ((i:Int) < 0) from by lia,if_false,Int.toNat_natCast,hx]
 refine wpAny_bind ?_
 first | refine wpAny_bind (wpAny_typeNameOfWhole_itemiter hT (wpAny_pure ?_)) | refine wpAny_bind (wpAny_typeNameOf_itemiter hT (wpAny_pure ?_))
 refine wpAny_bind (wpAny_isOneOf_itemiter hT ?_)
 show wpAny _ _ (setField (.ref it) 3 (rawInt ((i:Int)+1))>>=_) _ _ ⟨hp,g,dr,tk,os⟩
 refine wpAny_bind (wpAny_setField_rec hit (by simp) fun h₁ bO bv=>?_)
 replace bv:Heap.SameBut it hp h₁:=bv
 replace bO:IsItemIter h₁ it d (i+1) n ep ok ov:=by
  have e:((i+1:Nat):Int)=(i:Int)+1:=by lia
  unfold IsItemIter;rw [e];simpa [rawInt] using bO
 have fJ:Shared.TypeIs ⟨h₁,g,dr,tk,os⟩ (.ref it) "dict_itemiterator":=⟨_,bO,rfl⟩
 refine wpAny_bind (wpAny_holding ?_)
 refine wpAny_bind (wpAny_isOneOf_itemiter fJ ?_)
 refine wpAny_bind (wpAny_isOneOf_itemiter fJ ?_)
 show wpAny _ _ (Builtin.Dict_items.pairFromOwner (.ref it) 6 e.key e.val) _ _ ⟨h₁,g,dr,tk,os⟩
 unfold Builtin.Dict_items.pairFromOwner
 refine wpAny_bind (wpAny_newTuple ?_)
 have ce:IsItemIter (h₁.push {cls:=.type "tuple",data:=.seq #[e.key,e.val]}) it d (i+1) n ep ok ov:=Heap.get?_push_of_some _ bO
 generalize eg:h₁.push {cls:=.type "tuple",data:=.seq #[e.key,e.val]}=h₂ at ce
 have ej:h₁.objs.size=hp.objs.size:=bv.1
 have k8:it < hp.objs.size:=Heap.lt_size hit
 have jY:h₂.get? hp.objs.size=some {cls:=.type "tuple",data:=.seq #[e.key,e.val]}:=by rw [<- eg,<- ej];exact Heap.get?_push_size _ rfl
 have jZ:h₂.objs.size=hp.objs.size+1:=by rw [<- eg,Heap.size_push,ej]
 have io:∀ b o,b≠it->hp.get? b=some o->h₂.get? b=some o:=fun b o hb e=>by rw [<- eg];exact Heap.get?_push_of_some _ (bv.extBut b o hb e)
 show wpAny _ _ (Builtin.Dict_items.ownedTupleIsFree (.ref it)>>=_) _ _ ⟨h₂,g,dr,tk,os⟩
 rw [ej]
 clear eg bO bv fJ ej h₁
 refine wpAny_bind ?_
 unfold Builtin.Dict_items.ownedTupleIsFree
 refine wpAny_bind (wpAny_field ce rfl (x:=.none) rfl (wpAny_pure ?_))
 simp only [if_true]
 refine wpAny_bind (wpAny_field ce rfl (x:=ok) rfl ?_)
 refine wpAny_bind (wpAny_field ce rfl (x:=ov) rfl ?_)
 refine wpAny_bind (wpAny_setField_rec ce (by simp) fun cQ dw b9=>?_)
 replace b9:Heap.SameBut it h₂ cQ:=b9
 replace dw:IsItemIter cQ it d (i+1) n ep e.key ov:=dw
 refine wpAny_bind (wpAny_setField_rec dw (by simp) fun lS ja fK=>?_)
 replace fK:Heap.SameBut it cQ lS:=fK
 replace ja:IsItemIter lS it d (i+1) n ep e.key e.val:=ja
 refine wpAny_bind (wpAny_setField_rec ja (by simp) fun lT jb fL=>?_)
 replace fL:Heap.SameBut it lS lT:=fL
 replace jb:IsItemIterOut lT it d (i+1) n ep e.key e.val hp.objs.size:=jb
 refine wpAny_bind (wpAny_setField_rec jb (by simp) fun jD jc fM=>?_)
 replace fM:Heap.SameBut it lT jD:=fM
 replace jc:IsItemIterOut jD it d (i+1) n ep e.key e.val hp.objs.size:=jc
 refine wpAny_bind (wpAny_letGo (wpAny_pure (wpAny_pure ⟨_,rfl,wpAny_pure (hQ jD jc ?_ ?_ ?_)⟩)))
 ·exact fM.extBut _ _ (Nat.ne_of_gt k8) (fL.extBut _ _ (Nat.ne_of_gt k8) (fK.extBut _ _ (Nat.ne_of_gt k8) (b9.extBut _ _ (Nat.ne_of_gt k8) jY)))
 ·show jD.objs.size=hp.objs.size+1
  rw [fM.1,fL.1,fK.1,b9.1,jZ]
 ·exact fun b o hb e=>fM.extBut b o hb (fL.extBut b o hb (fK.extBut b o hb (b9.extBut b o hb (io b o hb e))))
theorem gV {it d:Addr}{i n ep:Nat}{od:Obj}{es:Array DictEntry}{ok ov:Value}{Q:Option Value->Shared->Prop}(hh:A.handled=none) (hit:IsItemIter s.heap it d i n ep ok ov)
  (cZ:s.heap.get? d=some od) (bT:od.data=.dict es ep) (ax:es.size=n) (hx:n<=i)
  (hQ:∀ h' o',h'.get? it=some o'->Heap.ExtBut it s.heap h'->s.heap.objs.size<=h'.objs.size->Q none {s with heap:=h'}):wpAny (model prog w) A (pyNext (.ref it)) Q E s:=by
 have hT:s.TypeIs (.ref it) "dict_itemiterator":=⟨_,hit,rfl⟩
 unfold pyNext
 refine wpAny_bind (wpAny_attempt (wpAny_callSpecial?_slot (name:=Str.ofString "__next__") hT F.slot_dict_itemiterator_next
  (wpAny_call_entry F.slot_dict_itemiterator_next hT F.entry_dict_itemiterator_next ?_ (F.args_dict_itemiterator_next_1 _))))
 refine wpAny_bind (wpAny_pure ?_)
 refine wpAny_bind ?_
 refine wpAny_bind ?_
 first | refine wpAny_bind (wpAny_typeNameOfWhole_itemiter hT (wpAny_pure ?_)) | refine wpAny_bind (wpAny_typeNameOf_itemiter hT (wpAny_pure ?_))
 refine wpAny_bind (wpAny_fieldsOf hit rfl ?_)
 have dJ:Builtin.Dict_items.ownsTuple "dict_itemiterator"=true:=by decide
 simp only [dJ,if_true]
 show wpAny _ _ (if (Value.ref d==Value.none)=true then _ else _) _ _ s
 rw [if_neg (show ¬ ((Value.ref d==Value.none)=true) from Bool.false_ne_true)]
 refine wpAny_bind (wpAny_pure ?_)
 refine wpAny_bind (wpAny_dictEntries cZ bT ?_)
 rw [if_neg (by rw [ax];simp)]
 refine wpAny_bind (wpAny_pure ?_)
 refine wpAny_bind (wpAny_dictEpoch cZ bT ?_)
 rw [if_neg (by simp)]
 refine wpAny_pure ?_
 have rF:es.size<=i:=by rw [ax];exact hx
 simp only [show ¬ ((i:Int) < 0) from by lia,if_false,Int.toNat_natCast,Array.getElem?_eq_none rF]
 refine wpAny_bind ?_
 first | refine wpAny_bind (wpAny_typeNameOfWhole_itemiter hT (wpAny_pure ?_)) | refine wpAny_bind (wpAny_typeNameOf_itemiter hT (wpAny_pure ?_))
 show wpAny _ _ (setField (.ref it) 2 .none>>=_) _ _ s
 refine wpAny_bind (wpAny_setField hit rfl (by simp) ?_)
 show wpAny _ _ (newExc (.type "StopIteration") []>>=_) _ _ _
 refine wpAny_bind ?_
 simp only [newExc,newTuple]
 refine wpAny_bind (wpAny_newObj_type ?_ (by size_fits))
 refine wpAny_bind (m:=firstArgMember _ _) (wpAny_of_eq (a:=Value.none) (by first | rfl | (simp only [firstArgMember];rfl)) ?_)
 refine wpAny_newObj_type ?_ (by size_fits)
 simp only [raiseNew]
 refine wpAny_bind (wpAny_handled ?_)
 rw [show A.in1.handled=none from hh]
 refine wpAny_bind (wpAny_pure (wpAny_throw ?_))
 refine wpAny_bind (wpAny_isInstance (T:="StopIteration") (b:=true) ⟨_,Heap.get?_push_size _ rfl,rfl⟩ isSubtype_stop ?_)
 refine wpAny_pure (hQ _ _ (Heap.get?_push_of_some _ (Heap.get?_push_of_some _ (Heap.get?_update_self _ hit rfl))) (((Heap.SameBut.update ..).extBut.push _).push _) ?_)
 rw [Heap.size_push,Heap.size_push,Heap.size_update];lia
end
noncomputable def fb (Γ:Ctx):Around:={handled:=Γ.handled,depth:=frameCount Γ.below+Γ.code.weight,units:=Γ.units}
theorem lU (Γ:Ctx):Γ.In (fb Γ):=⟨rfl,Nat.le_refl _,(fun _ h=>nomatch h),(fun _ h=>nomatch h),Nat.le_refl _⟩
theorem aR {M:Model}{Γ:Ctx}{α:Type}{t:Sem α}{Q:α->Shared->Prop}{E:Value->Shared->Prop}{s:Shared}(h:wpAny M (fb Γ) t Q E s) (p:Pos):wp M Γ t (fun a _ s'=>Q a s') (fun e _ s'=>E e s') p s:=h Γ p (lU Γ)
section
variable {prog:Program}{w:World}{Γ:Ctx}{R:Result->Shared->Prop}{p:Pos}{s:Shared}
theorem am {id:String}{args:Args}{b:Builtin}(aF:Γ.code=.builtin id args) (hb:entryFor table id=some b)
  (h:wp (model prog w) Γ (b args) (finPost (model prog w) Γ R) (fun e _ s'=>R (.error e) s') p s):wpCode (model prog w) Γ R p s:=by
 refine (wpCode_iff_wp _ _ _ _ _).mpr ?_
 rw [aF]
 have e:(model prog w).den (.builtin id args)=b args:=by
  show (match entryFor table id with | some b=>b args | none=>unsupported ((withoutEnding? id "#data").getD id))=_
  rw [hb]
 rw [e];exact h
theorem fW {d:Addr}{o:Obj}{es:Array DictEntry}{ep:Nat}{k:Int}{t:Tok}{Q:Option Value->Pos->Shared->Prop}{E:Value->Pos->Shared->Prop}(ho:s.heap.get? d=some o) (hd:o.data=.dict es ep) (hk:IntKeys es)
  (h:∀ p,Q (findBy Value.isInt es k) p {s with toks:=s.toks+1}):wp (model prog w) Γ (dictGet d (.int k t)) Q E p s:=by
 refine Sem.wp_mono _ _ _ (fun a p' s' h'=>h' p') (fun e p' s' h'=>h'.elim) _ _ (aR (Q:=fun a s'=>∀ p,Q a p s') (E:=fun _ _=>False) ?_ p)
 unfold dictGet
 try with_reducible refine wpAny_holding ?_
 refine wpAny_bind (wpAny_pyHash_int (wpAny_bind (wpAny_dictFind_int (s:={s with toks:=s.toks+1}) ho hd hk ?_)))
 rw [findBy_of_findIdx?] at h
 cases hi:es.findIdx? fun e=>Value.isInt k e.key with
 | none=>rw [hi] at h;exact wpAny_pure h
 | some i=>rw [hi] at h;exact wpAny_bind (wpAny_dictEntries (s:={s with toks:=s.toks+1}) ho hd (wpAny_pure h))
theorem oe {d:Addr}{o:Obj}{es:Array DictEntry}{ep:Nat}{k:Int}{t:Tok}{v:Value}(aF:Γ.code=.builtin "dict.__getitem__" ⟨[.ref d,.int k t],[]⟩)
  (ho:s.heap.get? d=some o) (hd:o.data=.dict es ep) (hk:IntKeys es) (hf:findBy Value.isInt es k=some v) (h:R (.ok (.ret v)) {s with toks:=s.toks+1}):wpCode (model prog w) Γ R p s:=by
 refine am aF entry_dict_getitem ?_
 show wp _ _ (dictGet d (.int k t)>>=_) _ _ _ _
 rw [Sem.wp_bind']
 refine fW ho hd hk fun p'=>?_
 rw [hf]
 exact h
noncomputable def iK (d : Addr) (key : Value) : Sem Fin := do
  match <- callSpecial? (.ref d) "__missing__" [key] with
  | some r => do rule "dict.__getitem__.missing-hook"; ret r
  | none => unsupported "no __missing__"
theorem m8 {d:Addr}{o:Obj}{es:Array DictEntry}{ep:Nat}{k:Int}{t:Tok}{c:Addr}(aF:Γ.code=.builtin "dict.__getitem__" ⟨[.ref d,.int k t],[]⟩)
  (ho:s.heap.get? d=some o) (hc:o.cls=.ref c) (hd:o.data=.dict es ep) (hk:IntKeys es) (hf:findBy Value.isInt es k=none)
  (h:∀ p,wp (model prog w) Γ (iK d (.int k t)) (finPost (model prog w) Γ R) (fun e _ s'=>R (.error e) s') p {s with toks:=s.toks+1}):wpCode (model prog w) Γ R p s:=by
 refine am aF entry_dict_getitem ?_
 show wp _ _ (dictGet d (.int k t)>>=_) _ _ _ _
 rw [Sem.wp_bind']
 refine fW ho hd hk fun p'=>?_
 rw [hf]
 show wp _ _ (Builtin.Dict.missed d (.int k t)>>=_) _ _ _ _
 rw [Sem.wp_bind']
 refine Sem.wp_mono _ _ _ (fun a p' s' h'=>?_) (fun e p' s' h'=>h'.elim) _ _ (aR (Q:=fun a s'=>a=none/\s'={s with toks:=s.toks+1}) (E:=fun _ _=>False) (wpAny_missed_int ⟨rfl,rfl⟩) p')
 obtain ⟨rfl,rfl⟩:=h'
 have ht:wp (model prog w) Γ (typeOf (.ref d)) (fun a rG gr=>a=.ref c/\rG=p'/\gr={s with toks:=s.toks+1}) (fun _ _ _=>False) p' {s with toks:=s.toks+1}:=by
  unfold typeOf
  rw [Sem.wp_bind']
  refine (Sem.wp_loadPart_of _ _ _ _ {s with toks:=s.toks+1} _ ho _).mpr ?_
  rw [hc]
  exact ⟨rfl,rfl,rfl⟩
 dsimp only
 rw [Sem.wp_bind']
 refine Sem.wp_mono _ _ _ (fun a rG gr h'=>?_) (fun e p' s' h'=>h'.elim) _ _ ht
 obtain ⟨rfl,rfl,rfl⟩:=h'
 rw [if_pos (show (Value.ref c != Value.type "dict")=true from rfl)]
 have h:=h rG
 unfold iK at h
 rw [Sem.wp_bind'] at h ⊢
 refine Sem.wp_mono _ _ _ (fun a p' s' h=>?_) (fun e p' s' h=>h) _ _ h
 cases a with
 | none=>exact h.elim
 | some r=>exact h
end
section
variable {E:En}{V:Heap}{U:Nat}{m:Mm}{n:Nat}{h:Heap}
theorem aE {m:Mm}:∀ {is:List Nat},ah (aZ m is)=is.length->∀ i∈is,i < ah m
 | [],_,i,hi=>nomatch hi
 | j::is,hl,i,hi=>by
  have AX:∀ js:List Nat,ah (aZ m js)<=js.length:=by
   intro js
   induction js with
   | nil=>exact Nat.le_refl _
   | cons j js ih=>
    show ah (match Y m j with | some x=>x::aZ m js | none=>aZ m js)<=_
    cases Y m j with
    | none=>exact Nat.le_succ_of_le ih
    | some x=>exact Nat.succ_le_succ ih
  cases q:Y m j with
  | none=>
   have e:aZ m (j::is)=aZ m is:=by show (match Y m j with | some x=>x::aZ m is | none=>aZ m is)=_;rw [q]
   rw [e] at hl
   have:=AX is
   rw [hl] at this
   exact absurd this (Nat.not_succ_le_self _)
  | some x=>
   have e:aZ m (j::is)=x::aZ m is:=by show (match Y m j with | some x=>x::aZ m is | none=>aZ m is)=_;rw [q]
   rw [e] at hl
   rcases List.mem_cons.mp hi with rfl | hi
   ·exact dU _ _ _ q
   ·exact aE (Nat.succ.inj hl) i hi
theorem Rep.pick (r:Rep E V U m n h) (is:List Nat) (K:Nat) (nd:is.Nodup) (pre:is.take K=List.range K) (hk:U<=K) (hl:ah (aZ m is)=is.length):Rep E V U (aZ m is) n h:=by
 have hv:=aE hl
 have get:∀ j x,Y (aZ m is) j=some x->∃ i,is[j]?=some i/\Y m i=some x:=by
  intro j x e
  rw [il hv] at e
  cases q:is[j]? with
  | none=>rw [q] at e;cases e
  | some i=>rw [q] at e;exact ⟨i,rfl,e⟩
 have at_:∀ i,i < U->is[i]?=some i:=by
  intro i hi
  have:(is.take K)[i]?=some i:=by rw [pre];exact List.getElem?_range (by lia)
  rwa [List.getElem?_take_of_lt (by lia)] at this
 have Ks:∀ j i,j < U->is[j]?=some i->i=j:=fun j i hj e=>by rw [at_ j hj] at e;cases e;rfl
 have Dv:∀ j i,U<=j->is[j]?=some i->U<=i:=by
  intro j i hj e
  rcases Nat.lt_or_ge i U with hi | hi
  ·have og:j < is.length:=(List.getElem?_eq_some_iff.mp e).1
   have:=(List.getElem?_inj og nd).mp (e.trans (at_ i hi).symm)
   lia
  ·exact hi
 refine ⟨r.size,r.base,fun i a o e=>?_,fun i j a o o' e e'=>?_,fun i a o e=>?_,fun b o e z=>r.keep b o e fun i a o' hi g=>?_,r.start,fun i a o hi e=>?_,?_,r.lowT⟩
 ·obtain ⟨k,_,e⟩:=get i _ e
  exact r.own k a o e
 ·obtain ⟨k,q,e⟩:=get i _ e
  obtain ⟨k',q',e'⟩:=get j _ e'
  have:=r.apart k k' a o o' e e'
  subst this
  have hi:i < is.length:=(List.getElem?_eq_some_iff.mp q).1
  exact (List.getElem?_inj hi nd).mp (q.trans q'.symm)
 ·obtain ⟨k,_,e⟩:=get i _ e
  exact r.off k a o e
 ·refine z i a o' hi ?_
  rw [il hv,at_ i hi];exact g
 ·obtain ⟨k,q,e⟩:=get i _ e
  exact r.fresh k a o (Dv i k hi q) e
 ·rw [jB hv]
  rcases Nat.lt_or_ge (is.length) U with hx | hx
  ·have:=at_ is.length hx
   rw [List.getElem?_eq_none (Nat.le_refl _)] at this;cases this
  ·exact hx
theorem Rep.chg (r:Rep E V U m n h) {i:Nat}{a:Addr}{o o':Obj}{h':Heap}{n':Nat}(e:Y m i=some (a,o)) (h1:h'.get? a=some o') (hs:h'.objs.size=n') (hn:n<=n')
  (same:∀ b x,b≠a->h.get? b=some x->h'.get? b=some x):Rep E V U (aK m i o') n' h':=by
 have gs:∀ j b x,Y (aK m i o') j=some (b,x)->(j=i/\b=a/\x=o')∨(j≠i/\Y m j=some (b,x)):=by
  intro j b x q
  rw [bN] at q
  split at q
  ·rename_i hj
   rw [e] at q;cases q
   exact .inl ⟨hj,rfl,rfl⟩
  ·rename_i hj
   exact .inr ⟨hj,q⟩
 have FF:∀ j b x,Y m j=some (b,x)->∃ x',Y (aK m i o') j=some (b,x'):=by
  intro j b x q
  rw [bN]
  split
  ·rename_i hj;subst hj;rw [q];exact ⟨_,rfl⟩
  ·exact ⟨x,q⟩
 have add:∀ j b x,Y (aK m i o') j=some (b,x)->∃ x',Y m j=some (b,x'):=by
  intro j b x q
  rcases gs j b x q with ⟨rfl,rfl,rfl⟩ | ⟨_,q⟩
  ·exact ⟨_,e⟩
  ·exact ⟨_,q⟩
 refine ⟨hs,fun b x e' q=>?_,fun j b x q=>?_,fun j1 j2 b o1 o2 q1 q2=>?_,fun j b x q=>?_,fun b x q z=>?_,Nat.le_trans r.start hn,fun j b x hj q=>?_,by rw [fE];exact r.old,fun b hb=>r.lowT b (Nat.le_trans hn hb)⟩
 ·refine same b x ?_ (r.base b x e' q)
  rintro rfl
  rcases r.off i _ o e with y | y
  ·rw [y] at q;cases q
  ·rw [y] at e';cases e'
 ·rcases gs j b x q with ⟨rfl,rfl,rfl⟩ | ⟨hj,q⟩
  ·exact h1
  ·refine same b x ?_ (r.own j b x q)
   rintro rfl
   exact hj (r.apart j i _ _ _ q e)
 ·obtain ⟨_,q1⟩:=add _ _ _ q1
  obtain ⟨_,q2⟩:=add _ _ _ q2
  exact r.apart j1 j2 b _ _ q1 q2
 ·obtain ⟨_,q⟩:=add _ _ _ q
  exact r.off j b _ q
 ·have k:=r.keep b x q fun j c y hj q2=>by
   obtain ⟨_,q3⟩:=FF j c y q2
   exact z j c _ hj q3
  refine same b x ?_ k
  rintro rfl
  by_cases hi:i < U
  ·obtain ⟨_,q3⟩:=FF i _ _ e
   exact z i _ _ hi q3 rfl
  ·exact absurd (Heap.lt_size q) (Nat.not_lt.mpr (r.fresh i _ o (by lia) e))
 ·obtain ⟨_,q⟩:=add _ _ _ q
  exact r.fresh j b _ hj q
theorem Rep.grow (r:Rep E V U m n h) {h':Heap}{n':Nat}(hs:h'.objs.size=n') (hn:n<=n') (same:∀ b x,h.get? b=some x->h'.get? b=some x):Rep E V U m n' h':=
 ⟨hs,fun b x e q=>same b x (r.base b x e q),fun i a o e=>same a o (r.own i a o e),r.apart,r.off,fun b x q z=>same b x (r.keep b x q z),Nat.le_trans r.start hn,r.fresh,r.old,fun a ha=>r.lowT a (Nat.le_trans hn ha)⟩
end
structure ay (E:En) (d:Drawn) (os:OsState) where
 X:Type
 x0:X
 L:Type
 look:Ask->L
 v:L
 ans:X->Ask->fm
 says:X->Prop
 holds:∀ V U (hs:List Nat),Holds E V U d os (fun q=>look q=v) (fun x q=>⟨(ans x q).t,(ans x q).p,(ans x q).m,(ans x q).n,(ans x q).tk,hs⟩) says
section
variable {E:En}{d:Drawn}{os:OsState}
noncomputable def ay.aw (C:ay E d os) (x:C.X) (hs:List Nat):Ask->fm:=fun q=>⟨(C.ans x q).t,(C.ans x q).p,(C.ans x q).m,(C.ans x q).n,(C.ans x q).tk,hs⟩
noncomputable def lE:Sem Fin->Bool
 | .pure (.again c)=>c.quiet
 | _=>true
noncomputable def fi (keep:List Nat) (o:dI):Ctx×Nat×Bool×g9×Mm×Nat×Nat:=(o.c.Γ.goto default,o.c.κ.length,lE o.c.t,lP o.c.t,aZ o.c.m keep,o.c.n,o.c.tk)
noncomputable def lV (E:En) (R:Result->Shared->Prop) (Γ:Ctx):g9->Pos->Shared->Prop
 | .done f,_,s=>R (.ok f) s
 | .raise e,_,s=>R (.error e) s
 | .again c,p,s=>wpCode (Mo E) (Γ.goto c) R p s
 | .other,_,_=>False
variable {V:Heap}{U:Nat}{R:Result->Shared->Prop}
theorem lW {c:fH}{Γ:Ctx}{t:g9}{s:Shared}(e1:c.Γ.goto default=Γ.goto default) (e2:c.κ.length=0) (e3:lE c.t=true) (e4:lP c.t=t) (F:∀ p,lV E R Γ t p s):Wc (Mo E) R c s:=by
 obtain ⟨Kt,p,κ,t',m,n,tk⟩:=c
 obtain rfl:=List.length_eq_zero_iff.mp e2
 cases Dq e4 with
 | done f=>exact F p
 | again c=>exact ⟨e3,wc e1 c▸F p⟩
 | raise e=>exact F p
 | other t=>exact (F p).elim
theorem we {o:dI}{Γ:Ctx}{keep:List Nat}{K:Nat}{t:g9}{m:Mm}{n tk:Nat}(e:fi keep o=(Γ.goto default,0,true,t,m,n,tk)) (hk:U<=K) (nd:keep.Nodup) (pre:keep.take K=List.range K) (hl:ah m=keep.length)
  (fin:∀ p h g,E.G g->Rep E V U m n h->lV E R Γ t p ⟨h,g,d,tk,os⟩):Well E V U R d os o.c:=by
 intro h g hg hr
 have e5:aZ o.c.m keep=m:=congrArg (·.2.2.2.2.1) e
 have e6:o.c.n=n:=congrArg (·.2.2.2.2.2.1) e
 have e7:o.c.tk=tk:=congrArg (·.2.2.2.2.2.2) e
 have bS:=hr.pick keep K nd pre hk (e5▸hl)
 rw [e5,e6] at bS
 rw [e7]
 exact lW (congrArg (·.1) e) (congrArg (·.2.1) e) (congrArg (·.2.2.1) e) (congrArg (·.2.2.2.1) e) fun p=>fin p h g hg bS
end
structure CH (E:En) (d:Drawn) (os:OsState) where
 X:Type
 x0:X
 L:Type
 look:Ask->L
 v:L
 ans:X->Ask->fm
 says:X->Prop
 gd:Heap->Nat->Prop
 holds:∀ V U,gd V U->∀ hs:List Nat,Holds E V U d os (fun q=>look q=v) (fun x q=>⟨(ans x q).t,(ans x q).p,(ans x q).m,(ans x q).n,(ans x q).tk,hs⟩) says
noncomputable def CH.aw {E:En}{d:Drawn}{os:OsState}(C:CH E d os) (x:C.X) (hs:List Nat):Ask->fm:=fun q=>⟨(C.ans x q).t,(C.ans x q).p,(C.ans x q).m,(C.ans x q).n,(C.ans x q).tk,hs⟩
inductive TE (E:En) (d:Drawn) (os:OsState) (ε:Type):Type 1
 | e (x:ε)
 | c (C:ay E d os) (r:C.X->TE E d os ε)
 | u (C:ay E d os) (r:TE E d os ε)
 | h (C:CH E d os) (r:C.X->TE E d os ε)
section
variable {E:En}{d:Drawn}{os:OsState}{ε τ:Type}(V:Heap) (U:Nat) (F:ε->Prop) (fo:ε->dI->τ) (fe:ε->τ) (c:fH) (aP:Nat) (hs:List Nat)
noncomputable def TE.fin:TE E d os ε->Prop
 | .e x=>F x
 | .c C r=>∀ x,C.says x->(r x).fin
 | .u _ r=>r.fin
 | .h C r=>C.gd V U/\∀ x,C.says x->(r x).fin
noncomputable def jE:List (List Nat)->List Nat
 | []=>[]
 | x::_=>x
noncomputable def px:List (List Nat)->List (List Nat)
 | []=>[]
 | _::l=>l
noncomputable def TE.tel:TE E d os ε->List (List Nat)->cY
 | .e _,_=>.nil
 | .c C r,hh | .h C r,hh=>.cons C.x0 (fun q=>C.look q=C.v) (fun x=>C.aw x (jE hh)) C.says fun x=>(r x).tel (px hh)
 | .u C r,hh=>.cons C.x0 (fun q=>C.look q=C.v) (fun x=>C.aw x (jE hh)) C.says fun _=>r.tel (px hh)
theorem TE.valid:∀ (T:TE E d os ε) (hh:List (List Nat)),T.fin V U F->(T.tel hh).Valid E V U d os
 | .e _,_,_=>trivial
 | .c C r,hh,H=>⟨C.holds V U _,fun x sx=>(r x).valid _ (H x sx)⟩
 | .u C r,hh,H=>⟨C.holds V U _,fun _ _=>r.valid _ H⟩
 | .h C r,hh,H=>⟨C.holds V U H.1 _,fun x sx=>(r x).valid _ (H.2 x sx)⟩
noncomputable def TE.O (τ:Type):TE E d os ε->Type->Type
 | .e _,LT=>List Nat×Nat×LT×τ
 | .c C r,LT | .h C r,LT=>(x:C.X)->(r x).O τ (LT×C.L)
 | .u C r,LT=>(x:C.X)->r.O τ (LT×C.L)
noncomputable def TE.lhs:(T:TE E d os ε)->List (List Nat)->List (Ask->fm)->(LT:Type)->(dI->LT)->Nat->T.O τ LT
 | .e x,_,as,LT,lk,_=>((run E aP hs as c).L,(run E aP hs as c).A.length,lk (run E aP hs as c),fo x (run E aP hs as c))
 | .c C r,hh,as,LT,lk,i=>fun x=>(r x).lhs (px hh) (as++[C.aw x (jE hh)]) (LT×C.L) (fun o=>(lk o,C.look (pk o.A i))) (i+1)
 | .u C r,hh,as,LT,lk,i=>fun x=>r.lhs (px hh) (as++[C.aw x (jE hh)]) (LT×C.L) (fun o=>(lk o,C.look (pk o.A i))) (i+1)
 | .h C r,hh,as,LT,lk,i=>fun x=>(r x).lhs (px hh) (as++[C.aw x (jE hh)]) (LT×C.L) (fun o=>(lk o,C.look (pk o.A i))) (i+1)
noncomputable def TE.rhs:(T:TE E d os ε)->List (List Nat)->List (Ask->fm)->(LT:Type)->LT->Nat->T.O τ LT
 | .e x,_,as,LT,v,i=>((run E aP hs as c).R,i,v,fe x)
 | .c C r,hh,as,LT,v,i=>fun x=>(r x).rhs (px hh) (as++[C.aw x (jE hh)]) (LT×C.L) (v,C.v) (i+1)
 | .u C r,hh,as,LT,v,i=>fun x=>r.rhs (px hh) (as++[C.aw x (jE hh)]) (LT×C.L) (v,C.v) (i+1)
 | .h C r,hh,as,LT,v,i=>fun x=>(r x).rhs (px hh) (as++[C.aw x (jE hh)]) (LT×C.L) (v,C.v) (i+1)
theorem lX:∀ {A:List Ask}{es:List (Ask->Prop)}{i:Nat}{e:Ask->Prop},i+1<=A.length->ff (A.take i) es->e (pk A i)->ff (A.take (i+1)) (es++[e])
 | [],es,i,e,h,_,_=>absurd h (by simp)
 | a::A,[],0,e,h,_,h3=>⟨h3,by simp [ff]⟩
 | a::A,[],i+1,e,h,h2,_=>h2.elim
 | a::A,f::es,0,e,h,h2,_=>h2.elim
 | a::A,f::es,i+1,e,h,h2,h3=>⟨h2.1,lX (Nat.le_of_succ_le_succ h) h2.2 h3⟩
variable {V U F fo fe c aP hs}
theorem j4 (a:Ask->fm) {as:List (Ask->fm)}:(fun l=>run E aP hs (as++(a::l)) c)=fun l=>run E aP hs ((as++[a])++l) c:=by
 funext l;rw [List.append_assoc];rfl
theorem oh {L:Type}{look:Ask->L}{v':L}{LT:Type}{lk:dI->LT}{v:LT}{i:Nat}{es:List (Ask->Prop)}(J:∀ o:dI,lk o=v->i<=o.A.length->ff (o.A.take i) es) (o:dI) (e:(lk o,look (pk o.A i))=(v,v')) (hi:i+1<=o.A.length):
  ff (o.A.take (i+1)) (es++[fun q=>look q=v']):=lX hi (J o (congrArg (·.1) e) (Nat.le_of_succ_le hi)) (congrArg (·.2) e)
theorem jF:∀ (T:TE E d os ε) (hh:List (List Nat)) {as:List (Ask->fm)}{LT:Type}{lk:dI->LT}{v:LT}{i:Nat}{es:List (Ask->Prop)},
  T.lhs fo c aP hs hh as LT lk i=T.rhs fe c aP hs hh as LT v i->(∀ o:dI,lk o=v->i<=o.A.length->ff (o.A.take i) es)->(T.tel hh).Runs (fun l=>run E aP hs (as++l) c) es
 | .e x,hh,as,LT,lk,v,i,es,H,J=>by
  have e1:(run E aP hs as c).L=(run E aP hs as c).R:=congrArg (·.1) H
  have e2:(run E aP hs as c).A.length=i:=congrArg (·.2.1) H
  have z:=J (run E aP hs as c) (congrArg (·.2.2.1) H) (Nat.le_of_eq e2.symm)
  rw [<- e2,List.take_length] at z
  rw [<- List.append_nil as] at e1 z
  exact ⟨e1,z⟩
 | .c C r,hh,as,LT,lk,v,i,es,H,J=>fun x=>j4 (c:=c) (C.aw x (jE hh))▸jF (r x) _ (congrFun H x) (oh J)
 | .u C r,hh,as,LT,lk,v,i,es,H,J=>fun x=>j4 (c:=c) (C.aw x (jE hh))▸jF r _ (congrFun H x) (oh J)
 | .h C r,hh,as,LT,lk,v,i,es,H,J=>fun x=>j4 (c:=c) (C.aw x (jE hh))▸jF (r x) _ (congrFun H x) (oh J)
theorem lF {Q:fH->Prop}(hE:∀ x o,fo x o=fe x->F x->Q o.c):∀ (T:TE E d os ε) (hh:List (List Nat)) {as:List (Ask->fm)}{LT:Type}{lk:dI->LT}{v:LT}{i:Nat},
  T.lhs fo c aP hs hh as LT lk i=T.rhs fe c aP hs hh as LT v i->T.fin V U F->(T.tel hh).Fin Q (fun l=>run E aP hs (as++l) c)
 | .e x,hh,as,LT,lk,v,i,H,F=>by
  have z:=hE x _ (congrArg (·.2.2.2) H) F
  rw [<- List.append_nil as] at z
  exact z
 | .c C r,hh,as,LT,lk,v,i,H,F=>fun x sx=>j4 (c:=c) (C.aw x (jE hh))▸lF hE (r x) _ (congrFun H x) (F x sx)
 | .u C r,hh,as,LT,lk,v,i,H,F=>fun x sx=>j4 (c:=c) (C.aw x (jE hh))▸lF hE r _ (congrFun H x) F
 | .h C r,hh,as,LT,lk,v,i,H,F=>fun x sx=>j4 (c:=c) (C.aw x (jE hh))▸lF hE (r x) _ (congrFun H x) (F.2 x sx)
end
noncomputable def fN (K:Nat) (l:List Nat):Bool:=@List.rec Nat (fun _=>Nat->Bool) (fun _=>true) (fun x _ ih k=>@Bool.rec (fun _=>Bool) false (ih (x+1)) (Nat.ble k x)) l K
theorem j5:∀ (l:List Nat) (K:Nat),fN K l=true->l.Nodup/\∀ x∈l,K<=x
 | [],K,_=>⟨List.nodup_nil,fun _ h=>nomatch h⟩
 | x::l,K,h=>by
  have h:@Bool.rec (fun _=>Bool) false (fN (x+1) l) (Nat.ble K x)=true:=h
  cases q:Nat.ble K x with
  | false=>rw [q] at h;cases h
  | true=>
   rw [q] at h
   obtain ⟨a,b⟩:=j5 l (x+1) h
   have Hx:=Nat.le_of_ble_eq_true q
   refine ⟨List.nodup_cons.mpr ⟨fun hm=>by have:=b x hm;lia,a⟩,fun y hy=>?_⟩
   rcases List.mem_cons.mp hy with rfl | hy
   ·exact Hx
   ·have:=b y hy;lia
inductive PE
 | e (t:g9) (m:Mm) (n tk:Nat)
 | a (t:g9) (m:Mm) (n tk:Nat)
 | t (t:g9) (m:Mm) (n tk:Nat) (k:Nat)
noncomputable def bR (m r:Mm):Mm:=@List.rec (Addr×Obj) (fun _=>Mm) r (fun x _ ih=>x::ih) m
noncomputable def tj (k:Nat):Mm->Mm:=@Nat.rec (fun _=>Mm->Mm) (fun m=>m) (fun _ ih m=>@List.rec (Addr×Obj) (fun _=>Mm) [] (fun _ r _=>ih r) m) k
theorem wf (k:Nat):∀ m,tj k m=List.drop k m:=by
 induction k with
 | zero=>intro m;rfl
 | succ k ih=>intro m;cases m with | nil=>rfl | cons x m=>exact ih m
noncomputable def ft (keep:List Nat) (k:Nat) (o:dI):Ctx×Nat×Bool×g9×Mm×Nat×Nat:=(o.c.Γ.goto default,o.c.κ.length,lE o.c.t,lP o.c.t,bR (aZ o.c.m keep) (tj k o.c.m),o.c.n,o.c.tk)
noncomputable def fa (o:dI):Ctx×Nat×Bool×g9×Mm×Nat×Nat:=(o.c.Γ.goto default,o.c.κ.length,lE o.c.t,lP o.c.t,o.c.m,o.c.n,o.c.tk)
noncomputable def FG (K:Nat) (new:List Nat):PE->dI->Bool×Nat×Ctx×Nat×Bool×g9×Mm×Nat×Nat
 | .e _ m _ _,o=>(fN K new,ah m,fi (List.range K++new) o)
 | .a ..,o=>(true,0,fa o)
 | .t _ _ _ _ k,o=>(fN K (new++[k]),ah (aZ o.c.m (List.range K++new)),ft (List.range K++new) k o)
noncomputable def FH (K:Nat) (new:List Nat) (Γ:Ctx):PE->Bool×Nat×Ctx×Nat×Bool×g9×Mm×Nat×Nat
 | .e t m n tk=>(true,K+new.length,Γ.goto default,0,true,t,m,n,tk)
 | .a t m n tk=>(true,0,Γ.goto default,0,true,t,m,n,tk)
 | .t t m n tk _=>(true,K+new.length,Γ.goto default,0,true,t,m,n,tk)
section
variable {E:En}{d:Drawn}{os:OsState}{V:Heap}{U:Nat}{R:Result->Shared->Prop}{Γ:Ctx}
noncomputable def PE.fin (E:En) (d:Drawn) (os:OsState) (V:Heap) (U:Nat) (R:Result->Shared->Prop) (Γ:Ctx):PE->Prop
 | .e q m n tk | .a q m n tk=>∀ p h g,E.G g->Rep E V U m n h->lV E R Γ q p ⟨h,g,d,tk,os⟩
 | .t q m n tk _=>∀ p h g,E.G g->Rep E V U m n h->lV E R Γ q p ⟨h,g,d,tk,os⟩
theorem us {o:dI}{t:g9}{m:Mm}{n tk:Nat}(e:fa o=(Γ.goto default,0,true,t,m,n,tk))
  (fin:∀ p h g,E.G g->Rep E V U m n h->lV E R Γ t p ⟨h,g,d,tk,os⟩):Well E V U R d os o.c:=by
 intro h g hg hr
 have e5:o.c.m=m:=congrArg (·.2.2.2.2.1) e
 have e6:o.c.n=n:=congrArg (·.2.2.2.2.2.1) e
 have e7:o.c.tk=tk:=congrArg (·.2.2.2.2.2.2) e
 rw [e5,e6] at hr
 rw [e7]
 exact lW (congrArg (·.1) e) (congrArg (·.2.1) e) (congrArg (·.2.2.1) e) (congrArg (·.2.2.2.1) e) fun p=>fin p h g hg hr
theorem tm {K:Nat}{new:List Nat}(e:fN K new=true):(List.range K++new).Nodup/\(List.range K++new).take K=List.range K/\(List.range K++new).length=K+new.length:=by
 obtain ⟨nd,ge⟩:=j5 _ _ e
 refine ⟨?_,?_,?_⟩
 ·rw [List.nodup_append]
  exact ⟨List.nodup_range,nd,fun a ha b hb q=>Nat.lt_irrefl b (Nat.lt_of_lt_of_le (q▸List.mem_range.mp ha) (ge b hb))⟩
 ·rw [List.take_append_of_le_length (by simp),List.take_of_length_le (by simp)]
 ·rw [List.length_append,List.length_range]
theorem lY {m:Mm}:∀ {is js:List Nat},aZ m (is++js)=bR (aZ m is) (aZ m js)
 | [],_=>rfl
 | i::is,js=>by
  show (match Y m i with | some x=>x::aZ m (is++js) | none=>aZ m (is++js))=bR (match Y m i with | some x=>x::aZ m is | none=>aZ m is) _
  rw [lY]
  cases Y m i<;>rfl
theorem j6 {m:Mm}:∀ (c k:Nat),k+c=ah m->aZ m (List.range' k c)=List.drop k m
 | 0,k,h=>by
  have:ah m=List.length m:=by
   clear h
   induction m with
   | nil=>rfl
   | cons y l ih=>exact congrArg Nat.succ ih
  rw [List.drop_of_length_le (by lia)]
  rfl
 | c+1,k,h=>by
  obtain ⟨x,hx⟩:=ik m k (by lia)
  show (match Y m k with | some x=>x::aZ m (List.range' (k+1) c) | none=>aZ m (List.range' (k+1) c))=_
  rw [hx,j6 c (k+1) (by lia)]
  have:∀ (m:Mm) (k:Nat),Y m k=some x->x::List.drop (k+1) m=List.drop k m:=by
   intro m
   induction m with
   | nil=>intro k e;cases e
   | cons y l ih=>
    intro k e
    cases k with
    | zero=>cases e;rfl
    | succ k=>exact ih k e
  exact this m k hx
theorem kH:∀ (l:List Nat) (K k:Nat),fN K (l++[k])=true->fN K l=true/\K<=k/\∀ x∈l,x < k
 | [],K,k,h=>by
  obtain ⟨_,h2⟩:=j5 [k] K h
  exact ⟨rfl,h2 k (by simp),fun x h=>nomatch h⟩
 | x::l,K,k,h=>by
  have h:@Bool.rec (fun _=>Bool) false (fN (x+1) (l++[k])) (Nat.ble K x)=true:=h
  cases q:Nat.ble K x with
  | false=>rw [q] at h;cases h
  | true=>
   rw [q] at h
   obtain ⟨a,b,c⟩:=kH l (x+1) k h
   have Hx:=Nat.le_of_ble_eq_true q
   refine ⟨?_,by lia,fun y hy=>?_⟩
   ·show @Bool.rec (fun _=>Bool) false (fN (x+1) l) (Nat.ble K x)=true
    rw [q];exact a
   ·rcases List.mem_cons.mp hy with rfl | hy
    ·lia
    ·exact c y hy
theorem Rep.pickT {m:Mm}{n:Nat}{h:Heap}(r:Rep E V U m n h) (is:List Nat) (K k:Nat) (nd:is.Nodup) (pre:is.take K=List.range K) (hk:U<=K) (hl:ah (aZ m is)=is.length) (It:K<=is.length) (lt:∀ i∈is,i < k):Rep E V U (bR (aZ m is) (tj k m)) n h:=by
 rw [wf]
 by_cases hm:k<=ah m
 ·rw [<- j6 (ah m - k) k (by lia),<- lY]
  refine r.pick _ K ?_ (by rw [List.take_append_of_le_length It];exact pre) hk ?_
  ·rw [List.nodup_append]
   refine ⟨nd,List.nodup_range',fun a ha b hb q=>?_⟩
   have h1:=lt a ha
   have h2:=(List.mem_range'_1.mp hb).1
   lia
  ·rw [lY,List.length_append,List.length_range',j6 _ _ (by lia)]
   have ll:∀ l:Mm,ah l=l.length:=by
    intro l
    induction l with
    | nil=>rfl
    | cons y l ih=>exact congrArg Nat.succ ih
   have la:∀ a b:Mm,ah (bR a b)=ah a+ah b:=by
    intro a b
    induction a with
    | nil=>exact (Nat.zero_add _).symm
    | cons y l ih=>exact (congrArg Nat.succ ih).trans (Nat.succ_add _ _).symm
   rw [la,hl,ll,List.length_drop,ll]
 ·have ll:∀ l:Mm,ah l=l.length:=by
   intro l
   induction l with
   | nil=>rfl
   | cons y l ih=>exact congrArg Nat.succ ih
  rw [List.drop_of_length_le (by rw [<- ll];lia)]
  have an:∀ l:Mm,bR l []=l:=by
   intro l
   induction l with
   | nil=>rfl
   | cons y l ih=>exact congrArg (y::·) ih
  rw [an]
  exact r.pick is K nd pre hk hl
theorem rH {o:dI}{K k:Nat}{new:List Nat}{t:g9}{m:Mm}{n tk:Nat}(e:ft (List.range K++new) k o=(Γ.goto default,0,true,t,m,n,tk)) (hk:U<=K) (ok:fN K (new++[k])=true) (hl:ah (aZ o.c.m (List.range K++new))=K+new.length)
  (fin:∀ p h g,E.G g->Rep E V U m n h->lV E R Γ t p ⟨h,g,d,tk,os⟩):Well E V U R d os o.c:=by
 intro h g hg hr
 have e5:bR (aZ o.c.m (List.range K++new)) (tj k o.c.m)=m:=congrArg (·.2.2.2.2.1) e
 have e6:o.c.n=n:=congrArg (·.2.2.2.2.2.1) e
 have e7:o.c.tk=tk:=congrArg (·.2.2.2.2.2.2) e
 obtain ⟨o1,o2,o3⟩:=kH _ _ _ ok
 obtain ⟨h1,h2,h3⟩:=tm o1
 have bS:=hr.pickT (List.range K++new) K k h1 h2 hk (hl.trans h3.symm) (by rw [h3];lia) fun i hi=>by
  rcases List.mem_append.mp hi with q | q
  ·have:=List.mem_range.mp q;lia
  ·exact o3 i q
 rw [e5,e6] at bS
 rw [e7]
 exact lW (congrArg (·.1) e) (congrArg (·.2.1) e) (congrArg (·.2.2.1) e) (congrArg (·.2.2.2.1) e) fun p=>fin p h g hg bS
theorem AY {K:Nat}{new:List Nat}(hk:U<=K):∀ (x:PE) (o:dI),FG K new x o=FH K new Γ x->x.fin E d os V U R Γ->Well E V U R d os o.c
 | .e t m n tk,o,H,F=>by
  have e5:ah m=K+new.length:=congrArg (·.2.1) H
  obtain ⟨h1,h2,h3⟩:=tm (congrArg (·.1) H:fN K new=true)
  exact we (keep:=List.range K++new) (K:=K) (congrArg (·.2.2) H) hk h1 h2 (e5.trans h3.symm) F
 | .a t m n tk,o,H,F=>us (congrArg (·.2.2) H) F
 | .t t m n tk k,o,H,F=>rH (congrArg (·.2.2) H) hk (congrArg (·.1) H) (congrArg (·.2.1) H) F
end
noncomputable def Iu (f:Nat):Nat->List Nat:=@Nat.rec (fun _=>Nat->List Nat) (fun _=>[]) (fun _ ih n=>@Bool.rec (fun _=>List Nat) (@Bool.rec (fun _=>List Nat) (Nat.mod n 16::ih (Nat.div n 16)) (Nat.mod (Nat.div n 16) 256::ih (Nat.div n 4096)) (Nat.beq (Nat.mod n 16) 15)) [] (Nat.ble n 1)) f
noncomputable def Hx:Nat->List Nat:=Iu 9999
structure eJ (d:Drawn) (os:OsState) where
 E:En
 K:Nat
 Γ:Ctx
 t:Sem Fin
 m:Mm
 n:Nat
 tk:Nat
 T:TE E d os PE
noncomputable def eJ.ok {d:Drawn}{os:OsState}:eJ d os->Prop
 | ⟨E,K,Γ,t,m,n,tk,T⟩=>∀ ⦃V:Heap⦄ ⦃U:Nat⦄ ⦃R:Result->Shared->Prop⦄ (lZ:Pos) (_:U<=K) (_:T.fin V U (PE.fin E d os V U R Γ)),Well E V U R d os ⟨Γ,lZ,[],t,m,n,tk⟩
noncomputable def eJ.OF {d:Drawn}{os:OsState}(P:eJ d os):Type:=Pos->P.T.O (Bool×Nat×Ctx×Nat×Bool×g9×Mm×Nat×Nat) Unit
noncomputable def eJ.lf {d:Drawn}{os:OsState}(P:eJ d os) (aP:Nat) (hs:List Nat) (hh:List (List Nat)) (new:List Nat):P.OF:=
 fun p=>P.T.lhs (FG P.K new) ⟨P.Γ,p,[],P.t,P.m,P.n,P.tk⟩ aP hs hh [] Unit (fun _=>()) 0
noncomputable def eJ.rf {d:Drawn}{os:OsState}(P:eJ d os) (aP:Nat) (hs:List Nat) (hh:List (List Nat)) (new:List Nat):P.OF:=
 fun p=>P.T.rhs (FH P.K new P.Γ) ⟨P.Γ,p,[],P.t,P.m,P.n,P.tk⟩ aP hs hh [] Unit () 0
theorem pc {d:Drawn}{os:OsState}{P:eJ d os}(aP:Nat) (hs:List Nat) (hh:List (List Nat)) (new:List Nat) (H:P.lf aP hs hh new=P.rf aP hs hh new) (gJ:P.E.nb=true:=by rfl):P.ok:=by
 cases P
 exact fun _ _ _ p hk F=>rD gJ aP (TE.tel _ hh) hs _ (jF _ hh (congrFun H p) fun o _ _=>trivial) (TE.valid _ _ _ _ hh F) (lF (AY hk) _ hh (congrFun H p) F)
section
variable {d:Drawn}{os:OsState}
noncomputable def AZ (P:Bool->eJ d os):Type:=(P true).OF×(P false).OF
noncomputable def Ba (P:Bool->eJ d os) (aP:Nat) (hs:List Nat) (hh:List (List Nat)) (new:List Nat):AZ P:=((P true).lf aP hs hh new,(P false).lf aP hs hh new)
noncomputable def Bb (P:Bool->eJ d os) (aP:Nat) (hs:List Nat) (hh:List (List Nat)) (new:List Nat):AZ P:=((P true).rf aP hs hh new,(P false).rf aP hs hh new)
theorem Dw {P:Bool->eJ d os}(aP:Nat) (hs:List Nat) (hh:List (List Nat)) (new:List Nat) (H:Ba P aP hs hh new=Bb P aP hs hh new) (gJ:∀ b,(P b).E.nb=true:=by intro;rfl):∀ b,(P b).ok:=by
 obtain ⟨h1,h2⟩:=Prod.ext_iff.mp H
 intro b
 cases b
 ·exact pc aP hs hh new h2 (gJ _)
 ·exact pc aP hs hh new h1 (gJ _)
noncomputable def FI (P:Bool->Bool->eJ d os):Type:=AZ (P true)×AZ (P false)
noncomputable def FJ (P:Bool->Bool->eJ d os) (aP:Nat) (hs:List Nat) (hh:List (List Nat)) (new:List Nat):FI P:=(Ba (P true) aP hs hh new,Ba (P false) aP hs hh new)
noncomputable def FK (P:Bool->Bool->eJ d os) (aP:Nat) (hs:List Nat) (hh:List (List Nat)) (new:List Nat):FI P:=(Bb (P true) aP hs hh new,Bb (P false) aP hs hh new)
theorem Iv {P:Bool->Bool->eJ d os}(aP:Nat) (hs:List Nat) (hh:List (List Nat)) (new:List Nat) (H:FJ P aP hs hh new=FK P aP hs hh new) (gJ:∀ c b,(P c b).E.nb=true:=by intros;rfl):∀ c b,(P c b).ok:=by
 obtain ⟨h1,h2⟩:=Prod.ext_iff.mp H
 intro c b
 cases c
 ·exact Dw aP hs hh new h2 (gJ _) b
 ·exact Dw aP hs hh new h1 (gJ _) b
end
section
variable {E:En}{a k:Int}{df v x y z:Value}{ep:Nat}{es:Array DictEntry}{o:Obj}{p:Pos}{t:Tok}{w:World}{Γ:Ctx}
noncomputable def a9 (v:Value):Value:=match v with
 | .int i _=>.int i 0
 | .str s _=>.str s 0
 | v=>v
theorem aO (h:a9 v=.int a 0):∃ t,v=.int a t:=by
 unfold a9 at h;split at h
 ·cases h;exact ⟨_,rfl⟩
 ·cases h
 ·rename_i x _;subst h;exact ⟨_,rfl⟩
theorem bw {a:Addr}(h:a9 v=.ref a):v=.ref a:=by
 unfold a9 at h;split at h
 ·cases h
 ·cases h
 ·exact h
noncomputable def bG (c:Code):Option (String×List Value):=match c with
 | .builtin id args=>match args with
  | ⟨pos,kw⟩=>match kw with
   | []=>some (id,pos.map a9)
   | _::_=>none
 | _=>none
theorem b7 {c:Code}{id:String}{vs:List Value}(h:bG c=some (id,vs)):∃ pos,c=.builtin id ⟨pos,[]⟩/\pos.map a9=vs:=by
 unfold bG at h
 split at h
 ·split at h
  split at h
  ·cases h;exact ⟨_,rfl,rfl⟩
  ·cases h
 ·cases h
theorem map_two {vs:List Value}(h:vs.map a9=[x,y]):∃ a b,vs=[a,b]/\a9 a=x/\a9 b=y:=by
 obtain ⟨a,l,rfl,e1,h⟩:=List.map_eq_cons_iff.mp h
 obtain ⟨b,l,rfl,e2,h⟩:=List.map_eq_cons_iff.mp h
 rw [List.map_eq_nil_iff.mp h]
 exact ⟨a,b,rfl,e1,e2⟩
theorem l0 {vs:List Value}(h:vs.map a9=[x,y,z]):∃ a b c,vs=[a,b,c]/\a9 a=x/\a9 b=y/\a9 c=z:=by
 obtain ⟨a,l,rfl,e1,h⟩:=List.map_eq_cons_iff.mp h
 obtain ⟨b,c,rfl,e2,e3⟩:=map_two h
 exact ⟨a,b,c,rfl,e1,e2,e3⟩
noncomputable def gW (i:Nat) (q:Ask):Value:=match q.code with
 | .builtin _ args=>nthV args.pos i
 | .call _ args=>nthV args.pos i
 | _=>.none
where nthV (l:List Value):Nat->Value:=@List.rec Value (fun _=>Nat->Value) (fun _=>.none) (fun x _ ih i=>@Nat.rec (fun _=>Value) x (fun j _=>ih j) i) l
section
variable {E:En}{d:Drawn}{os:OsState}
noncomputable def ay.leaf {L:Type}(X:Type) (x0:X) (look:Ask->L) (v:L) (val:X->Ask->Value) (m':X->Ask->Mm) (n' a8:X->Ask->Nat) (says:X->Prop)
  (H:∀ (V:Heap) (U:Nat) (q:Ask) (Q:Result->Shared->Prop) (h:Heap) (g:Array GenState),look q=v->q.Γ.code=q.code->E.G g->Rep E V U q.m q.n h->
   (∀ x,says x->∀ h' g',E.G g'->Rep E V U (m' x q) (n' x q) h'->Q (.ok (.ret (val x q))) ⟨h',g',d,a8 x q,os⟩)->wpCode (Mo E) q.Γ Q q.p ⟨h,g,d,q.tk,os⟩):ay E d os where
 X:=X
 x0:=x0
 L:=L
 look:=look
 v:=v
 ans x q:=⟨.pure (.done (.ret (val x q))),q.p,m' x q,n' x q,a8 x q,[]⟩
 says:=says
 holds V U hs:=fun q Q h g e hc hg hr k=>H V U q Q h g e hc hg hr fun x sx h' g' bn bS=>k x sx h' g' bn bS
noncomputable def i0 (id:String) {b:Builtin}(hb:entryFor table id=some b) (f:Int->Int->Bool) (hf:∀ a t c u,b ⟨[.int a t,.int c u],[]⟩=ret (.bool (f a c))) (a c:Int) (r:Bool) (hr:f a c=r):ay E d os:=
 ay.leaf Unit () (fun q=>bG q.code) (some (id,[.int a 0,.int c 0])) (fun _ _=>.bool r) (fun _ q=>q.m) (fun _ q=>q.n) (fun _ q=>q.tk) (fun _=>True) (by
  intro V U q Q h g e hc hg bS k
  obtain ⟨pos,e1,e2⟩:=b7 e
  obtain ⟨x,y,rfl,h1,h2⟩:=map_two e2
  obtain ⟨t,rfl⟩:=aO h1
  obtain ⟨u,rfl⟩:=aO h2
  refine am (hc.trans e1) hb ?_
  rw [hf,hr]
  exact k () trivial h g hg bS)
noncomputable abbrev pA (a c:Int) (r:Bool) (hr:decide (a < c)=r):ay E d os:=i0 "int.__lt__" F.entry_int_lt (fun a b=>decide (a < b)) (fun _ _ _ _=>rfl) a c r hr
noncomputable abbrev fO (a c:Int) (r:Bool) (hr:decide (a>c)=r):ay E d os:=i0 "int.__gt__" F.entry_int_gt (fun a b=>decide (a>b)) (fun _ _ _ _=>rfl) a c r hr
noncomputable def eu (es:Array DictEntry) (k:Int) (key v:Value):Array DictEntry:=match es.findIdx? fun e=>Value.isInt k e.key with
 | some i=>es.modify i fun e=>{e with val:=v}
 | none=>es.push ⟨hashInt k,key,v⟩
noncomputable def ev (es:Array DictEntry) (ep:Nat) (k:Int):Nat:=match es.findIdx? fun e=>Value.isInt k e.key with
 | some _=>ep
 | none=>ep+1
noncomputable def tn (o:Obj) (es:Array DictEntry) (ep:Nat) (k:Int) (key v:Value):Obj:=⟨o.cls,o.dict,.dict (eu es k key v) (ev es ep k),o.slots⟩
noncomputable def pB (i:Nat) (a:Addr) (o:Obj) (es:Array DictEntry) (ep:Nat) (hd:o.data=.dict es ep) (hk:IntKeys es) (k:Int) (v:Value) (hf:findBy Value.isInt es k=some v):ay E d os:=
 ay.leaf Unit () (fun q=>(bG q.code,Y q.m i)) (some ("dict.__getitem__",[.ref a,.int k 0]),some (a,o)) (fun _ _=>v) (fun _ q=>q.m) (fun _ q=>q.n) (fun _ q=>q.tk+1) (fun _=>True) (by
  intro V U q Q h g e hc hg hr k
  obtain ⟨e1,e2⟩:=Prod.ext_iff.mp e
  obtain ⟨pos,e3,e4⟩:=b7 e1
  obtain ⟨x,y,rfl,h1,h2⟩:=map_two e4
  obtain rfl:=bw h1
  obtain ⟨u,rfl⟩:=aO h2
  exact oe (hc.trans e3) (hr.own _ _ _ e2) hd hk hf (k () trivial h g hg hr))
noncomputable def jd (dv key:Value):Sem Fin:=R.bindR (Fast.tw9201129301070521445 dv (Str.ofString "__missing__") [key] []) fun r=>match r with
 | some r=>.rule "dict.__getitem__.missing-hook" fun _=>.pure (.done (.ret r))
 | none=>.unsupported "no __missing__"
theorem m9 (a:Addr) (key:Value):jd (.ref a) key=iK a key:=by
 unfold jd iK
 rw [<- R.bindR_eq,<- Fast.te9201129301070521445]
 rfl
noncomputable def nz (i:Nat) (a:Addr) (o:Obj) (es:Array DictEntry) (ep:Nat) (c:Addr) (j7:o.cls=.ref c) (hd:o.data=.dict es ep) (hk:IntKeys es) (k:Int) (hf:findBy Value.isInt es k=none):ay E d os where
 X:=Pos
 x0:=default
 L:=_
 look q:=(bG q.code,Y q.m i)
 v:=(some ("dict.__getitem__",[.ref a,.int k 0]),some (a,o))
 ans p q:=⟨jd (.ref a) (gW 1 q),p,q.m,q.n,q.tk+1,[]⟩
 says _:=True
 holds:=by
  intro V U hs q Q h g e hc hg hr kk
  obtain ⟨e1,e2⟩:=Prod.ext_iff.mp e
  obtain ⟨pos,e3,e4⟩:=b7 e1
  obtain ⟨x,y,rfl,h1,h2⟩:=map_two e4
  obtain rfl:=bw h1
  obtain ⟨u,rfl⟩:=aO h2
  refine m8 (hc.trans e3) (hr.own _ _ _ e2) j7 hd hk hf fun p=>?_
  have z:=kk p trivial h g hg hr
  dsimp only at z
  have ea:gW 1 q=.int k u:=by unfold gW;rw [e3];rfl
  rw [m9,ea] at z
  exact z
theorem Bc {prog:Program}{R:Result->Shared->Prop}{s:Shared}{d:Addr}(aF:Γ.code=.builtin "dict.get" ⟨[.ref d,.int k t,df],[]⟩)
  (ho:s.heap.get? d=some o) (hd:o.data=.dict es ep) (hk:IntKeys es) (h:R (.ok (.ret ((findBy Value.isInt es k).getD df))) {s with toks:=s.toks+1}):wpCode (model prog w) Γ R p s:=by
 refine am aF F.entry_dict_get ?_
 show wp _ _ (dictGet d (.int k t)>>=_) _ _ _ _
 rw [Sem.wp_bind']
 refine fW ho hd hk fun p'=>?_
 cases hf:findBy Value.isInt es k with
 | some v=>rw [hf] at h;exact h
 | none=>
  rw [hf] at h
  show wp _ _ (Builtin.Dict.missed d (.int k t)>>=_) _ _ _ _
  rw [Sem.wp_bind']
  refine Sem.wp_mono _ _ _ (fun a p' s' h'=>?_) (fun e p' s' h'=>h'.elim) _ _ (aR (Q:=fun a s'=>a=none/\s'={s with toks:=s.toks+1}) (E:=fun _ _=>False) (wpAny_missed_int ⟨rfl,rfl⟩) p')
  obtain ⟨rfl,rfl⟩:=h'
  exact h
noncomputable def l2 (i:Nat) (a:Addr) (o:Obj) (es:Array DictEntry) (ep:Nat) (hd:o.data=.dict es ep) (hk:IntKeys es) (k:Int) (df:Value) (v:Option Value) (hf:findBy Value.isInt es k=v):ay E d os:=
 ay.leaf Unit () (fun q=>(bG q.code,Y q.m i)) (some ("dict.get",[.ref a,.int k 0,df]),some (a,o)) (fun _ q=>v.getD (gW 2 q)) (fun _ q=>q.m) (fun _ q=>q.n) (fun _ q=>q.tk+1) (fun _=>True) (by
  intro V U q Q h g e hc hg hr kk
  obtain ⟨e1,e2⟩:=Prod.ext_iff.mp e
  obtain ⟨pos,e3,e4⟩:=b7 e1
  obtain ⟨x,y,z,rfl,h1,h2,_⟩:=l0 e4
  obtain rfl:=bw h1
  obtain ⟨u,rfl⟩:=aO h2
  refine Bc (hc.trans e3) (hr.own _ _ _ e2) hd hk ?_
  rw [hf]
  have ez:gW 2 q=z:=by unfold gW;rw [e3];rfl
  have k2:=kk () trivial h g hg hr
  rw [ez] at k2
  exact k2)
theorem oi {prog:Program}{R:Result->Shared->Prop}{s:Shared}{d:Addr}(aF:Γ.code=.builtin "dict.__contains__" ⟨[.ref d,.int k t],[]⟩)
  (ho:s.heap.get? d=some o) (hd:o.data=.dict es ep) (hk:IntKeys es) (h:R (.ok (.ret (.bool (findBy Value.isInt es k).isSome))) {s with toks:=s.toks+1}):wpCode (model prog w) Γ R p s:=by
 refine am aF entry_dict_contains ?_
 show wp _ _ (dictGet d (.int k t)>>=_) _ _ _ _
 rw [Sem.wp_bind']
 refine fW ho hd hk fun p'=>?_
 cases hf:findBy Value.isInt es k with
 | some v=>rw [hf] at h;exact h
 | none=>
  rw [hf] at h
  show wp _ _ (Builtin.Dict.pendingKey? d (.int k t)>>=_) _ _ _ _
  rw [Sem.wp_bind']
  refine Sem.wp_mono _ _ _ (fun a p' s' h'=>?_) (fun e p' s' h'=>h'.elim) _ _ (aR (Q:=fun a s'=>a=none/\s'={s with toks:=s.toks+1}) (E:=fun _ _=>False) (wpAny_pendingKey_int ⟨rfl,rfl⟩) p')
  obtain ⟨rfl,rfl⟩:=h'
  exact h
noncomputable def nA (T:BT) (c:Nat):Bool:=match T.get c with
 | some co=>match co.data with
  | .cls cd=>match cd.mro with
   | []=>false
   | x::l=>lL ((x::l).contains (.type "collections.OrderedDict"))
  | _=>false
 | none=>false
noncomputable def ip (E:En) (o:Obj):Prop:=o.cls=.type "dict"∨∃ c,o.cls=.ref c/\nA E.T c=true/\g8 c E.mu=false
theorem fu {A:Around}{name:String}{args:Args}{X:Value->Shared->Prop}{Q:Unit->Shared->Prop}{s:Shared}{d:Addr}(hh:args.pos.headD .none=.ref d) (ho:s.heap.get? d=some o) (hc:ip E o)
  (base:∀ a o,E.T.get a=some o->g8 a E.mu=false->s.heap.get? a=some o) (h:Q () s):wpAny (Mo E) A (Builtin.Dict.notOrdered name args) Q X s:=by
 rcases hc with hc | ⟨c,hc,hp,hm⟩
 ·exact wpAny_notOrdered_dict (by rw [hh];exact ⟨o,ho,hc⟩) h
 ·unfold Builtin.Dict.notOrdered
  split
  ·rw [hh]
   unfold nA at hp
   split at hp
   case h_2=>cases hp
   rename_i co vX
   split at hp
   case h_2=>cases hp
   rename_i cd hcd
   split at hp
   case h_1=>cases hp
   rename_i x l hml
   have FM:=iI hp
   have FO:=base _ _ vX hm
   have ht:∀ (Q:Value->Shared->Prop),Q (.ref c) s->wpAny (Mo E) A (typeOf (.ref d)) Q X s:=fun Q hQ=>by
    unfold typeOf
    refine wpAny_bind (wpAny_loadPart ho ?_)
    rw [hc];exact wpAny_pure hQ
   refine wpAny_bind (ht _ ?_)
   rw [if_pos (show (Value.ref c != Value.type "dict")=true from rfl)]
   unfold isInstance isSubtype
   refine wpAny_bind (wpAny_bind (ht _ ?_))
   have FP:∀ (Q:ClassData->Shared->Prop),Q cd s->wpAny (Mo E) A (classData c) Q X s:=fun Q hQ=>by
    unfold classData
    refine wpAny_bind (wpAny_loadPart FO ?_)
    rw [hcd];exact wpAny_pure hQ
   refine wpAny_bind (wpAny_bind (FP _ (wpAny_pure ?_)))
   rw [hml]
   simp only [List.isEmpty_cons,Bool.false_eq_true,if_false]
   refine wpAny_pure ?_
   rw [FM]
   exact wpAny_pure h
  ·exact wpAny_pure h
theorem Bd {R:Result->Shared->Prop}{s:Shared}{d:Addr}(aF:Γ.code=.builtin "dict.__setitem__" ⟨[.ref d,.int k t,v],[]⟩)
  (ho:s.heap.get? d=some o) (hd:o.data=.dict es ep) (hk:IntKeys es) (ax:es.size<=sizeLine) (j7:ip E o) (base:∀ a o,E.T.get a=some o->g8 a E.mu=false->s.heap.get? a=some o)
  (h:∀ h',h'.get? d=some (tn o es ep k (.int k t) v)->Heap.SameBut d s.heap h'->R (.ok (.ret .none)) {s with heap:=h',toks:=s.toks+1}):wpCode (Mo E) Γ R p s:=by
 refine am aF entry_dict_setitem ?_
 show wp _ _ (Builtin.Dict.notOrdered "__setitem__" ⟨[.ref d,.int k t,v],[]⟩>>=fun _=>dictSet d (.int k t) v>>=fun _=>ret .none) _ _ _ _
 rw [Sem.wp_bind']
 refine Sem.wp_mono _ _ _ (fun a p' s1 h'=>?_) (fun e p' s' h'=>h'.elim) _ _ (aR (Q:=fun a s1=>s1=s) (E:=fun _ _=>False) (fu rfl ho j7 base rfl) p)
 rw [h',Sem.wp_bind']
 refine Sem.wp_mono _ _ _ (fun a p' s' h'=>h' p') (fun e p' s' h'=>h'.elim) _ _ (aR (Q:=fun a s'=>∀ p,wp (Mo E) Γ (ret .none) (finPost (Mo E) Γ R) (fun e _ s'=>R (.error e) s') p s') (E:=fun _ _=>False) ?_ p')
 unfold dictSet
 try with_reducible refine wpAny_holding ?_
 refine wpAny_bind (wpAny_pyHash_int ?_)
 unfold dictSetHashed
 try with_reducible refine wpAny_holding ?_
 refine wpAny_bind (wpAny_dictFind_int (s:={s with toks:=s.toks+1}) ho hd hk ?_)
 cases hi:es.findIdx? fun e=>Value.isInt k e.key with
 | some i=>
  refine wpAny_bind (wpAny_rule (wpAny_bind (wpAny_updateDict (s:={s with toks:=s.toks+1}) ho hd ?_ (by simp))))
  refine wpAny_point fun p=>h _ ?_ (Heap.SameBut.update ..)
  obtain ⟨c,dd,dt,sl⟩:=o
  simp only at hd;subst hd
  rw [Heap.get?_update_self _ ho rfl]
  unfold tn eu ev
  rw [hi];rfl
 | none=>
  refine wpAny_bind (wpAny_rule (wpAny_updateDictKeys (s:={s with toks:=s.toks+1}) ho hd (fun p=>h _ ?_ (Heap.SameBut.update ..)) ax (by simp)))
  obtain ⟨c,dd,dt,sl⟩:=o
  simp only at hd;subst hd
  rw [Heap.get?_update_self _ ho rfl]
  unfold tn eu ev
  rw [hi];rfl
noncomputable def iq (i:Nat) (a:Addr) (o:Obj) (es:Array DictEntry) (ep:Nat) (hd:o.data=.dict es ep) (hk:IntKeys es) (ax:es.size<=sizeLine) (j7:ip E o) (k:Int) (v:Value):ay E d os:=
 ay.leaf Unit () (fun q=>(bG q.code,Y q.m i)) (some ("dict.__setitem__",[.ref a,.int k 0,v]),some (a,o)) (fun _ _=>.none) (fun _ q=>aK q.m i (tn o es ep k (gW 1 q) (gW 2 q))) (fun _ q=>q.n) (fun _ q=>q.tk+1) (fun _=>True) (by
  intro V U q Q h g e hc hg hr kk
  obtain ⟨e1,e2⟩:=Prod.ext_iff.mp e
  obtain ⟨pos,e3,e4⟩:=b7 e1
  obtain ⟨x,y,z,rfl,h1,h2,_⟩:=l0 e4
  obtain rfl:=bw h1
  obtain ⟨u,rfl⟩:=aO h2
  have ey:gW 1 q=.int k u:=by unfold gW;rw [e3];rfl
  have ez:gW 2 q=z:=by unfold gW;rw [e3];rfl
  refine Bd (hc.trans e3) (hr.own _ _ _ e2) hd hk ax j7 hr.base fun h' oj ca=>?_
  have z:=hr.chg e2 oj (ca.1.trans hr.size) (Nat.le_refl _) fun b x hb hx=>(ca.2 b hb).trans hx
  rw [<- ey,<- ez] at z
  exact kk () trivial h' g hg z)
end
end
section
variable {N dd di ep i ii it n tk:Nat}{Q:Flow->Pos->Shared->Prop}{X:Value->Pos->Shared->Prop}{body l ba rest:List Stmt}{es:Array DictEntry}{g:Array GenState}{h:Heap}{m:Mm}{od:Obj}{ok ov v:Value}{p:Pos}{Γ:Ctx}
noncomputable def d9 (l:List Stmt) (env:Env):Sem Fin:=R.bindR (Fast.tw12563942051412417395 l env) fun fl=>.pure (.done fl)
theorem ts (l:List Stmt) (env:Env):d9 l env=execs l env>>=fun fl=>(.pure (.done fl):Sem Fin):=by
 unfold d9;rw [<- R.bindR_eq,<- Fast.te12563942051412417395];rfl
theorem eV {M:Model}{Γ:Ctx}{env:Env}{rest:List Stmt}{Q:Flow->Pos->Shared->Prop}{X:Value->Pos->Shared->Prop}:∀ (l:List Stmt) (p:Pos) (s:Shared),
  wp M Γ (execs l env) (fun f p s=>match f with | .next=>wp M Γ (execs rest env) Q X p s | f=>Q f p s) X p s->wp M Γ (execs (l++rest) env) Q X p s
 | [],p,s,h=>h
 | st::l,p,s,h=>by
  have h:wp M Γ (exec st env>>=fun f=>match f with | .next=>execs l env | f=>pure f) _ X p s:=h
  show wp M Γ (exec st env>>=fun f=>match f with | .next=>execs (l++rest) env | f=>pure f) Q X p s
  rw [Sem.wp_bind'] at h ⊢
  refine Sem.wp_mono M Γ _ (fun f p' s' h=>?_) (fun _ _ _ h=>h) _ _ h
  cases f with
  | next=>exact eV l p' s' h
  | brk=>exact h
  | cont=>exact h
  | ret v=>exact h
section
variable {E:En}{V:Heap}{U:Nat}{d:Drawn}{os:OsState}
noncomputable def ut (E:En) (Γ:Ctx) (rest:List Stmt) (env:Env) (Q:Flow->Pos->Shared->Prop) (X:Value->Pos->Shared->Prop):Result->Shared->Prop
 | .ok .next,s=>∀ p,wp (Mo E) Γ (execs rest env) Q X p s
 | .ok f,s=>∀ p,Q f p s
 | .error e,s=>∀ p,X e p s
theorem ew {env:Env}(hg:E.G g) (hr:Rep E V U m n h)
  (w:Well E V U (ut E Γ rest env Q X) d os ⟨Γ,p,[],d9 l env,m,n,tk⟩):wp (Mo E) Γ (execs (l++rest) env) Q X p ⟨h,g,d,tk,os⟩:=by
 refine eV l p _ ?_
 have z:=w h g hg hr
 rw [cO] at z
 rw [ts,Sem.wp_bind'] at z
 refine Sem.wp_mono _ _ _ (fun f p' s' h=>?_) (fun e p' s' h=>h p') _ _ z
 cases f<;>exact h p'
theorem rI {env : Env} {R : Result -> Shared -> Prop} {s : Shared} (aF : Γ.code = .func body env)
    (h : wp (Mo E) Γ (execs body env) (fun f _ s' => R (.ok (.ret (match f with | .ret v => v | _ => .none))) s') (fun _ _ _ => False) p s) : wpCode (Mo E) Γ R p s := by
  refine (wpCode_iff_wp _ _ _ _ _).mpr ?_
  rw [aF]
  show wp (Mo E) Γ (do point; match <- (execs body env).onRaise (leaving env) with | .ret v => ret v | _ => ret .none) _ _ _ _
  rw [Sem.wp_bind', Sem.wp_cmd_point, Sem.wp_bind', Sem.wp_onRaise]
  refine Sem.wp_mono _ _ _ (fun f p' s' h => ?_) (fun e p' s' h => h.elim) _ _ h
  cases f <;> exact h
theorem pC {env : Env} {R : Result -> Shared -> Prop} {s : Shared} (aF : Γ.code = .block [] env) (h : R (.ok .next) s) : wpCode (Mo E) Γ R p s := by
  refine (wpCode_iff_wp _ _ _ _ _).mpr ?_
  rw [aF]
  show wp (Mo E) Γ ((execs [] env).onRaise (fun x => do noteFrame x env; theTreesLotGoes x) >>= fun fl => (pure (Fin.done fl) : Sem Fin)) _ _ _ _
  rw [Sem.wp_bind', Sem.wp_onRaise]
  exact h
noncomputable def rJ (target:Expr) (v:Value) (l:List Stmt) (env:Env):Sem Fin:=R.bindR (Fast.tw17772580674575903948 target env v) fun _=>R.bindR (Fast.tw12563942051412417395 l env) fun fl=>.pure (.done fl)
theorem Be (target:Expr) (v:Value) (l:List Stmt) (env:Env):rJ target v l env=assign target env v>>=fun _=>execs l env>>=fun fl=>(.pure (.done fl):Sem Fin):=by
 unfold rJ;rw [<- R.bindR_eq,<- Fast.te12563942051412417395,<- Fast.te17772580674575903948];rfl
noncomputable def rK (E:En) (Γ:Ctx) (Cy:Code) (R:Result->Shared->Prop):Flow->Pos->Shared->Prop
 | .next,p,s=>wpCode (Mo E) (Γ.goto Cy) R p s
 | .cont,p,s=>wpCode (Mo E) (Γ.goto Cy) R p s
 | .brk,_,s=>R (.ok .next) s
 | .ret v,_,s=>R (.ok (.ret v)) s
theorem pD {target:Expr}{it:Value}{env:Env}{R:Result->Shared->Prop}
  (hB:body=l++rest) (w:Well E V U (ut E Γ rest env (rK E Γ (.forLoop target it body ba env) R) (fun _ _ _=>False)) d os ⟨Γ,p,[],rJ target v l env,m,n,tk⟩):
  Well E V U R d os ⟨Γ,p,[],gm target it v body ba env,m,n,tk⟩:=by
 subst hB
 intro h g hg hr
 have z:=w h g hg hr
 rw [cO] at z ⊢
 rw [<- gK]
 rw [Be] at z
 unfold gk
 simp only [Sem.wp_bind',Sem.wp_onRaise] at z ⊢
 refine Sem.wp_mono _ _ _ (fun _ p' s' h=>?_) (fun e p' s' h=>(h p').elim) _ _ z
 refine eV l p' _ ?_
 refine Sem.wp_mono _ _ _ (fun f p' s' h=>?_) (fun e p' s' h=>(h p').elim) _ _ h
 have fin:∀ (X:Value->Pos->Shared->Prop) f p' s',rK E Γ (.forLoop target it (l++rest) ba env) R f p' s'->wp (Mo E) Γ (match f with
   | .next | .cont=>again (.forLoop target it (l++rest) ba env)
   | .brk=>pure (.done .next)
   | .ret v=>pure (.done (.ret v)):Sem Fin) (finPost (Mo E) Γ R) X p' s':=by
  intro X f p' s' hf
  cases f with
  | next=>exact ⟨rfl,hf⟩
  | cont=>exact ⟨rfl,hf⟩
  | brk=>exact hf
  | ret v=>exact hf
 cases f with
 | next=>
  refine Sem.wp_mono _ _ _ (fun f p' s' h=>?_) (fun e p' s' h=>h.elim) _ _ (h p')
  exact fin _ f p' s' h
 | cont=>exact ⟨rfl,h p'⟩
 | brk=>exact h p'
 | ret v=>exact h p'
noncomputable def c8 (d i n ep:Nat) (o ok ov:Value):Obj:=⟨.type "dict_itemiterator",none,.fields #[o,.bool false,.ref d,.int i 0,.int n 0,.int ep 0,ok,ov],#[]⟩
noncomputable def bb (x y:Value):Obj:=⟨.type "tuple",none,.seq #[x,y] 0,#[]⟩
noncomputable abbrev ol (e:Expr):Prop:=∀ it v,letOwnedTupleGo e it v=letOwnedTupleGo (.Tuple [] 0 ⟨0,0,0,0⟩) it v
theorem om {target:Expr}{env:Env}{R:Result->Shared->Prop}{e:DictEntry}
  (Dx:ol target) (aF:Γ.code=.forLoop target (.ref it) body ba env) (hg:E.G g) (hr:Rep E V U m n h) (h1:Y m ii=some (it,c8 dd i N ep .none ok ov)) (h2:Y m di=some (dd,od)) (hd:od.data=.dict es ep) (hN:es.size=N)
  (hx:es[i]?=some e)
  (w:∀ p,Well E V U R d os ⟨Γ,p,[],gm target (.ref it) (.ref n) body ba env,bh (aK m ii (c8 dd (i+1) N ep .none e.key e.val)) (n,bb e.key e.val),n+1,tk⟩) (p:Pos):
  wpCode (Mo E) Γ R p ⟨h,g,d,tk,os⟩:=by
 refine (wpCode_iff_wp _ _ _ _ _).mpr ?_
 rw [aF]
 refine n8 ?_
 refine Sem.wp_mono (Mo E) Γ _ (fun a p' s' h'=>?_) (fun e p' s' h'=>h') _ _ (aR (Q:=fun o s'=>o=some (.ref h.objs.size)/\∀ p,wp (Mo E) Γ (gj target (.ref it) (.ref h.objs.size) body ba env) (finPost (Mo E) Γ R) (fun e _ s'=>R (.error e) s') p s') (E:=fun _ _=>False) ?_ _)
 ·obtain ⟨rfl,h'⟩:=h';exact h' p'
 have hit:IsItemIter h it dd i N ep ok ov:=hr.own _ _ _ h1
 have cZ:=hr.own _ _ _ h2
 have bx:it≠dd:=fun q=>by
  subst q
  have:=(cZ.symm.trans (hr.own _ _ _ h1))
  injection this with this
  rw [this] at hd;cases hd
 refine eU hit cZ hd hN hx fun h' he ht hs same=>⟨rfl,fun p=>?_⟩
 refine kG ?_
 refine Sem.wp_mono _ _ _ (fun a p' s' h'=>h' p') (fun e p' s' h'=>h') _ _ (aR (Q:=fun _ s'=>∀ p,wp (Mo E) Γ (gk target (.ref it) (.ref h.objs.size) body ba env) _ _ p s') (E:=fun _ _=>False) ?_ p)
 rw [Dx _ _]
 refine wpAny_letOwnedTupleGo_items (he:IsItemIterOut h' it dd (i+1) N ep e.key e.val h.objs.size) fun h2 nc k9 p=>?_
 rw [hr.size] at *
 have r1:Rep E V U (aK m ii (c8 dd (i+1) N ep .none e.key e.val)) (n+1) h2:=by
  refine hr.chg h1 nc (k9.1.trans hs) (Nat.le_succ _) fun b x hb hx=>(k9.2 b hb).trans (same b x hb hx)
 have wg:n≠it:=fun q=>Nat.lt_irrefl _ (q▸hr.lt h1)
 have r2:=r1.know (b:=n) (o:=bb e.key e.val) ((k9.2 n wg).trans ht) hr.start (fun i o' q=>by
  rw [bN] at q
  split at q
  ·rw [h1] at q;cases q;exact wg rfl
  ·exact Nat.lt_irrefl _ (hr.lt q)) (hr.lowT n (Nat.le_refl _))
 have z:=w p h2 g hg r2
 rw [cO] at z
 rw [<- gK] at z
 exact z
theorem rL {target:Expr}{env:Env}{R:Result->Shared->Prop}
  (aF:Γ.code=.forLoop target (.ref it) body [] env) (hh:Γ.handled=none) (hg:E.G g) (hr:Rep E V U m n h) (h1:Y m ii=some (it,c8 dd i N ep .none ok ov)) (h2:Y m di=some (dd,od)) (hd:od.data=.dict es ep) (hN:es.size=N) (hx:N<=i)
  (fin:∀ h' n' o',n<=n'->Rep E V U (aK m ii o') n' h'->R (.ok .next) ⟨h',g,d,tk,os⟩) (p:Pos):wpCode (Mo E) Γ R p ⟨h,g,d,tk,os⟩:=by
 refine (wpCode_iff_wp _ _ _ _ _).mpr ?_
 rw [aF]
 refine n8 ?_
 have hit:IsItemIter h it dd i N ep ok ov:=hr.own _ _ _ h1
 have cZ:=hr.own _ _ _ h2
 refine Sem.wp_mono (Mo E) Γ _ (fun a p' s' h'=>?_) (fun e p' s' h'=>h'.elim) _ _ (aR (Q:=fun o s'=>o=none/\R (.ok .next) s') (E:=fun _ _=>False)
  (gV (A:=fb Γ) hh hit cZ hd hN hx fun h' o' oj he hs=>⟨rfl,fin h' h'.objs.size o' (hr.size▸hs) (hr.chg h1 oj rfl (hr.size▸hs) fun b x hb hx=>he b x hb hx)⟩) _)
 obtain ⟨rfl,h'⟩:=h'
 exact ⟨rfl,pC rfl h'⟩
end
end
section
variable {E:En}{V:Heap}{U:Nat}{d:Drawn}{os:OsState}{M:Model}{Γ:Ctx}{env:Env}{p:Pos}{s:Shared}
noncomputable def Iw (Q:Value->Pos->Shared->Prop) (X:Value->Pos->Shared->Prop):Result->Shared->Prop
 | .ok (.ret v),s=>∀ p,Q v p s
 | .ok _,_=>False
 | .error e,s=>∀ p,X e p s
end
noncomputable def nB (l:List Nat):Nat->Nat->Option Nat:=@List.rec Nat (fun _=>Nat->Nat->Option Nat) (fun _ _=>none) (fun x _ ih i s=>@Bool.rec (fun _=>Option Nat) (ih i (s+1)) (some s) (Nat.beq i x)) l
noncomputable def tt (is:List Nat) (m':Mm) (m:Mm):Nat->Mm:=@List.rec (Addr×Obj) (fun _=>Nat->Mm) (fun _=>[]) (fun x _ ih s=>(x.1,match nB is s 0 with
 | some j=>match Y m' j with
  | some y=>y.2
  | none=>x.2
 | none=>x.2)::ih (s+1)) m
noncomputable def rM (m:Mm):Nat->Mm:=@List.rec (Addr×Obj) (fun _=>Nat->Mm) (fun _=>[]) (fun x r ih k=>@Nat.rec (fun _=>Mm) (x::r) (fun j _=>ih j) k) m
noncomputable def eC (m:Mm) (is:List Nat) (m':Mm):Mm:=bR (tt is m' m 0) (rM m' is.length)
theorem l3:∀ (l:List Nat) (i s j:Nat),nB l i s=some j->s<=j/\l[j - s]?=some i
 | [],_,_,_,h=>nomatch h
 | x::l,i,s,j,h=>by
  have h:@Bool.rec (fun _=>Option Nat) (nB l i (s+1)) (some s) (Nat.beq i x)=some j:=h
  cases q:Nat.beq i x with
  | true=>
   rw [q] at h
   cases h
   rw [Nat.sub_self,Nat.eq_of_beq_eq_true q]
   exact ⟨Nat.le_refl _,rfl⟩
  | false=>
   rw [q] at h
   obtain ⟨a,b⟩:=l3 l i (s+1) j h
   have e:j - s=(j - (s+1))+1:=by lia
   rw [e]
   exact ⟨by lia,b⟩
theorem l4:∀ (l:List Nat) (i s:Nat),nB l i s=none->i ∉ l
 | [],_,_,_=>fun h=>nomatch h
 | x::l,i,s,h=>by
  have h:@Bool.rec (fun _=>Option Nat) (nB l i (s+1)) (some s) (Nat.beq i x)=none:=h
  cases q:Nat.beq i x with
  | true=>rw [q] at h;cases h
  | false=>
   rw [q] at h
   have b:=l4 l i (s+1) h
   intro hm
   rcases List.mem_cons.mp hm with rfl | hm
   ·simp at q
   ·exact b hm
theorem je (is:List Nat) (m':Mm):∀ (m:Mm) (s i:Nat),Y (tt is m' m s) i=(Y m i).map fun x=>(x.1,match nB is (s+i) 0 with
 | some j=>match Y m' j with
  | some y=>y.2
  | none=>x.2
 | none=>x.2)
 | [],_,_=>rfl
 | x::m,s,0=>rfl
 | x::m,s,i+1=>by
  show Y (tt is m' m (s+1)) i=Option.map _ (Y m i)
  rw [je is m' m (s+1) i]
  have:s+1+i=s+(i+1):=by lia
  rw [this]
theorem iL (is:List Nat) (m':Mm):∀ (m:Mm) (s:Nat),ah (tt is m' m s)=ah m
 | [],_=>rfl
 | x::m,s=>congrArg Nat.succ (iL is m' m (s+1))
theorem kI:∀ (m:Mm) (k i:Nat),Y (rM m k) i=Y m (k+i)
 | [],_,_=>rfl
 | x::m,0,i=>by show Y (x::m) i=_;rw [Nat.zero_add]
 | x::m,k+1,i=>by
  show Y (rM m k) i=_
  rw [kI m k i]
  have:k+1+i=(k+i)+1:=by lia
  rw [this];rfl
theorem eW:∀ (m r:Mm) (i:Nat),Y (bR m r) i=if i < ah m then Y m i else Y r (i - ah m)
 | [],r,i=>by rw [if_neg (show ¬ i < ah [] from Nat.not_lt_zero _)];rfl
 | x::m,r,0=>by rw [if_pos (show 0 < ah (x::m) from Nat.succ_pos _)];rfl
 | x::m,r,i+1=>by
  show Y (bR m r) i=_
  rw [eW m r i]
  have e:ah (x::m)=ah m+1:=rfl
  rw [e]
  by_cases h:i < ah m
  ·rw [if_pos h,if_pos (by lia)];rfl
  ·rw [if_neg h,if_neg (by lia)]
   congr 1;lia
theorem nC:∀ (m r:Mm),ah (bR m r)=ah m+ah r
 | [],r=>(Nat.zero_add _).symm
 | x::m,r=>by show Nat.succ (ah (bR m r))=Nat.succ (ah m)+ah r;rw [nC m r];lia
theorem kJ {m:Mm}{is:List Nat}{m':Mm}(hl:is.length<=ah m') {i:Nat}{x:Addr×Obj}(h:Y (eC m is m') i=some x):
  (i < ah m/\∃ j y z,is[j]?=some i/\Y m' j=some y/\Y m i=some z/\x=(z.1,y.2))∨(i < ah m/\Y m i=some x/\i ∉ is)∨(ah m<=i/\Y m' (is.length+(i - ah m))=some x):=by
 unfold eC at h
 rw [eW,iL] at h
 split at h
 ·rename_i hi
  rw [je] at h
  cases q:Y m i with
  | none=>rw [q] at h;cases h
  | some z=>
   rw [q] at h
   simp only [Option.map_some,Nat.zero_add] at h
   injection h with h
   split at h
   ·rename_i j hj
    have og:=(l3 _ _ _ _ hj).2
    rw [Nat.sub_zero] at og
    split at h
    ·rename_i y hy
     exact .inl ⟨hi,j,y,z,og,hy,rfl,h.symm⟩
    ·rename_i hy
     obtain ⟨y,hC⟩:=ik m' j (Nat.lt_of_lt_of_le (List.getElem?_eq_some_iff.mp og).1 hl)
     rw [hy] at hC;cases hC
   ·rename_i hj
    refine .inr (.inl ⟨hi,by rw [<- h],l4 _ _ _ hj⟩)
 ·rename_i hi
  rw [kI] at h
  exact .inr (.inr ⟨Nat.le_of_not_lt hi,h⟩)
theorem ir {m:Mm}{is:List Nat}{m':Mm}{i:Nat}{z:Addr×Obj}(h:Y m i=some z):∃ o,Y (eC m is m') i=some (z.1,o):=by
 unfold eC
 rw [eW,iL,if_pos (dU _ _ _ h),je,h]
 exact ⟨_,rfl⟩
section
variable {E:En}{V:Heap}{U:Nat}{m:Mm}{n:Nat}{h:Heap}
theorem Rep.join (r:Rep E V U m n h) (is:List Nat) (nd:is.Nodup) (hl:ah (aZ m is)=is.length) {m':Mm}{n':Nat}{h':Heap}(r':Rep E h is.length m' n' h')
  (same:∀ j y,j < is.length->Y m' j=some y->∃ o,Y (aZ m is) j=some (y.1,o)):Rep E V U (eC m is m') n' h':=by
 have hv:=aE hl
 have nn:n<=n':=r.size▸r'.start
 have at_:∀ j y,j < is.length->Y m' j=some y->∃ i o,is[j]?=some i/\Y m i=some (y.1,o):=by
  intro j y hj e
  obtain ⟨o,e'⟩:=same j y hj e
  rw [il hv] at e'
  cases q:is[j]? with
  | none=>rw [q] at e';cases e'
  | some i=>rw [q] at e';exact ⟨i,o,rfl,e'⟩
 have jl:∀ {j i:Nat},is[j]?=some i->j < is.length:=fun e=>(List.getElem?_eq_some_iff.mp e).1
 -- the address of a joined one
 have Bf:∀ i a o,Y (eC m is m') i=some (a,o)->(i < ah m/\∃ o',Y m i=some (a,o'))∨(ah m<=i/\Y m' (is.length+(i - ah m))=some (a,o)):=by
  intro i a o e
  rcases kJ r'.old e with ⟨hi,j,y,z,e1,e2,e3,e4⟩ | ⟨hi,e1,_⟩ | ⟨hi,e1⟩
  ·cases e4;exact .inl ⟨hi,_,e3⟩
  ·exact .inl ⟨hi,_,e1⟩
  ·exact .inr ⟨hi,e1⟩
 have Dy:∀ i a o,Y m i=some (a,o)->i ∉ is->h'.get? a=some o:=by
  intro i a o e hi
  refine r'.keep a o (r.own i a o e) fun j a' o' hj e' q=>?_
  subst q
  obtain ⟨i',n6,e1,e2⟩:=at_ j _ hj e'
  have:=r.apart i i' _ _ _ e e2
  subst this
  exact hi (List.mem_of_getElem? e1)
 refine ⟨r'.size,r'.base,fun i a o e=>?_,fun i1 i2 a o1 o2 e1 e2=>?_,fun i a o e=>?_,fun b o e z=>?_,Nat.le_trans r.start nn,fun i a o hi e=>?_,?_,r'.lowT⟩
 ·rcases kJ r'.old e with ⟨hi,j,y,z,e1,e2,e3,e4⟩ | ⟨hi,e1,hn⟩ | ⟨hi,e1⟩
  ·cases e4
   obtain ⟨i',o',f1,f2⟩:=at_ j y (jl e1) e2
   rw [e1] at f1;cases f1
   rw [e3] at f2
   cases y
   injection f2 with f2
   subst f2
   exact r'.own j _ _ e2
  ·exact Dy i a o e1 hn
  ·exact r'.own _ a o e1
 ·rcases Bf i1 a o1 e1 with ⟨_,p1,q1⟩ | ⟨h1,q1⟩<;>rcases Bf i2 a o2 e2 with ⟨_,p2,q2⟩ | ⟨h2,q2⟩
  ·exact r.apart i1 i2 a _ _ q1 q2
  ·have:=r'.fresh _ a _ (Nat.le_add_right _ _) q2
   exact absurd (r.lt q1) (Nat.not_lt.mpr (r.size▸this))
  ·have:=r'.fresh _ a _ (Nat.le_add_right _ _) q1
   exact absurd (r.lt q2) (Nat.not_lt.mpr (r.size▸this))
  ·have:=r'.apart _ _ a _ _ q1 q2
   lia
 ·rcases Bf i a o e with ⟨_,_,q⟩ | ⟨_,q⟩
  ·exact r.off i a _ q
  ·exact r'.off _ a _ q
 ·refine r'.keep b o (r.keep b o e fun i a o' hi g=>?_) fun j a' o' hj e' q=>?_
  ·obtain ⟨n6,g'⟩:=ir (is:=is) (m':=m') g
   exact z i a n6 hi g'
  ·subst q
   obtain ⟨i',n6,f1,f2⟩:=at_ j _ hj e'
   by_cases hi:i' < U
   ·obtain ⟨o3,g'⟩:=ir (is:=is) (m':=m') f2
    exact z i' _ o3 hi g' rfl
   ·exact absurd (Heap.lt_size e) (Nat.not_lt.mpr (r.fresh i' _ _ (Nat.le_of_not_lt hi) f2))
 ·rcases Bf i a o e with ⟨_,_,q⟩ | ⟨_,q⟩
  ·exact r.fresh i a _ hi q
  ·exact Nat.le_trans (r.size▸r.start:V.objs.size<=h.objs.size) (r'.fresh _ a _ (Nat.le_add_right _ _) q)
 ·unfold eC
  rw [nC,iL]
  exact Nat.le_trans r.old (Nat.le_add_right _ _)
theorem Rep.join' (r:Rep E V U m n h) (is:List Nat) (nd:is.Nodup) (hl:ah (aZ m is)=is.length) {m':Mm}{n':Nat}{h':Heap}(r':Rep E h is.length m' n' h')
  (same:(m'.take is.length).map (·.1)=(aZ m is).map (·.1)):Rep E V U (eC m is m') n' h':=by
 refine r.join is nd hl r' fun j y hj e=>?_
 have ge:∀ (l:Mm) (j:Nat),Y l j=l[j]?:=by
  intro l
  induction l with
  | nil=>intro j;rfl
  | cons x l ih=>
   intro j
   cases j with
   | zero=>rfl
   | succ j=>rw [List.getElem?_cons_succ];exact ih j
 rw [ge] at e ⊢
 have z:=congrArg (fun l=>l[j]?) same
 simp only [List.getElem?_map,List.getElem?_take_of_lt hj,e,Option.map_some] at z
 cases q:(aZ m is)[j]? with
 | none=>rw [q] at z;cases z
 | some x=>
  rw [q] at z
  injection z with z
  exact ⟨x.2,by rw [z]⟩
theorem Well.sub {R:Result->Shared->Prop}{d:Drawn}{os:OsState}{Γ:Ctx}{p:Pos}{κ:List Fm}{t:Sem Fin}{tk:Nat}(is:List Nat) {bm:Mm}(e:aZ m is=bm) (nd:is.Nodup) (hl:ah bm=is.length)
  (w:∀ h,Rep E V U m n h->Well E h is.length R d os ⟨Γ,p,κ,t,bm,n,tk⟩):Well E V U R d os ⟨Γ,p,κ,t,m,n,tk⟩:=by
 subst e
 exact fun h g hg hr=>w h hr h g hg (hr.sub is (aE hl) nd)
end
noncomputable abbrev FL:=Expr×Value×List Stmt×List Stmt×Env
noncomputable abbrev FN:=List Stmt×Env
noncomputable abbrev CP:=Expr×List Comprehension×Scope×Pos×Nat×Value×Value×Env
noncomputable def fl (x:FL):Code:=.forLoop x.1 x.2.1 x.2.2.1 x.2.2.2.1 x.2.2.2.2
noncomputable def fn (x:FN):Code:=.func x.1 x.2
noncomputable def cp (x:CP):Code:=.compLoop (.ListComp x.1 x.2.1 x.2.2.1 x.2.2.2.1) x.2.2.2.2.1 x.2.2.2.2.2.1 x.2.2.2.2.2.2.1 x.2.2.2.2.2.2.2
noncomputable abbrev CQ:=String×Args
noncomputable abbrev WL:=Expr×List Stmt×List Stmt×Env
noncomputable def cq (x:CQ):Code:=.builtin x.1 x.2
noncomputable def wl (x:WL):Code:=.whileLoop x.1 x.2.1 x.2.2.1 x.2.2.2
noncomputable abbrev srt (a:Args):Code:=.builtin "sorted" a
noncomputable abbrev CC:Code:=.builtin "claim.caller" {}
inductive on:Code->Nat->Prop
 | fn (f:FN):on (fn f) 1
 | fl (f:FL):on (fl f) 2
 | cp (f:CP):on (cp f) 3
 | cq (f:CQ):on (cq f) 4
 | srt (a:Args):on (srt a) 5
 | wl (f:WL):on (wl f) 6
 | other (c:Code):on c 0
noncomputable def FQ:(c:Code)->{n:Nat // on c n}
 | .func a b=>⟨1,.fn (a,b)⟩
 | .forLoop a b c d e=>⟨2,.fl (a,b,c,d,e)⟩
 | .compLoop (.ListComp a b c d) e f g h=>⟨3,.cp (a,b,c,d,e,f,g,h)⟩
 | .builtin a b=>if h:a="sorted" then ⟨5,h▸.srt b⟩ else ⟨4,.cq (a,b)⟩
 | .whileLoop a b c d=>⟨6,.wl (a,b,c,d)⟩
 | c=>⟨0,.other c⟩
noncomputable def kd (c:Code):Nat:=(FQ c).1
theorem tu {c:Code}{n:Nat}(h:kd c=n):on c n:=h▸(FQ c).2
theorem FR {c:Code}(h:kd c=1):∃ f,c=fn f:=by
 cases tu h;exact ⟨_,rfl⟩
theorem FS {c:Code}(h:kd c=2):∃ f,c=fl f:=by
 cases tu h;exact ⟨_,rfl⟩
theorem FT {c:Code}(h:kd c=4):∃ f,c=cq f:=by
 cases tu h;exact ⟨_,rfl⟩
theorem FU {c:Code}(h:kd c=6):∃ f,c=wl f:=by
 cases tu h;exact ⟨_,rfl⟩
noncomputable def dW (Γ:Ctx):Option Value×Option Value×Option Value×List Nat×Option Code:=(Γ.handled,Γ.own,Γ.past,Γ.below.dropLast.map fun x=>kd x.1,Γ.below.getLast?.map fun x=>x.1)
theorem pE {c:Code}{a b q:Option Value}{l:List (Code×Pos)}{ks:List Nat}(h:dW ⟨c,a,b,l,q⟩=(none,none,none,ks,some CC)):
  a=none/\b=none/\q=none/\(l.dropLast.map fun x=>kd x.1)=ks/\(l.getLast?.map fun x=>x.1)=some CC:=by
 unfold dW at h
 simp only [Prod.mk.injEq] at h
 exact h
noncomputable def Bo (l:List (Code×Pos)) (ks:List Nat):Prop:=(l.dropLast.map fun x=>kd x.1)=ks/\(l.getLast?.map fun x=>x.1)=some CC
theorem tv {l:List (Code×Pos)}{D:List (Code×Pos)->Prop}(h:Bo l []) (k:∀ p,D [(CC,p)]):D l:=by
 obtain ⟨e4,e5⟩:=h
 rcases l with _ | ⟨x,_ | ⟨y,l⟩⟩
 ·exact absurd e5 (by simp)
 ·obtain ⟨c',p⟩:=x
  injection e5 with e5
  have e6:c'=CC:=e5
  subst e6
  exact k p
 ·exact absurd e4 (by simp)
theorem jG {l:List (Code×Pos)}{i:Nat}{ks:List Nat}{D:List (Code×Pos)->Prop}(h:Bo l (i::ks)) (k:∀ c p l,kd c=i->Bo l ks->D ((c,p)::l)):D l:=by
 obtain ⟨e4,e5⟩:=h
 rcases l with _ | ⟨x,_ | ⟨y,l⟩⟩
 ·exact absurd e5 (by simp)
 ·exact absurd e4 (by simp)
 ·obtain ⟨c',p⟩:=x
  rw [List.dropLast_cons_cons,List.map_cons] at e4
  injection e4 with e4 e6
  rw [List.getLast?_cons_cons] at e5
  exact k c' p (y::l) e4 ⟨e6,e5⟩
section
variable {l:List (Code×Pos)}{ks:List Nat}{D:List (Code×Pos)->Prop}
theorem f7 (h:Bo l (1::ks)) (k:∀ f p l,Bo l ks->D ((fn f,p)::l)):D l:=jG h fun c p l e h=>by obtain ⟨f,rfl⟩:=FR e;exact k f p l h
theorem rN (h:Bo l (2::ks)) (k:∀ f p l,Bo l ks->D ((fl f,p)::l)):D l:=jG h fun c p l e h=>by obtain ⟨f,rfl⟩:=FS e;exact k f p l h
theorem Dz (h:Bo l (4::ks)) (k:∀ f p l,Bo l ks->D ((cq f,p)::l)):D l:=jG h fun c p l e h=>by obtain ⟨f,rfl⟩:=FT e;exact k f p l h
theorem wh (h:Bo l [1]) (k:∀ f1 p1 p2,D [(fn f1,p1),(CC,p2)]):D l:=
 f7 h fun f1 p1 l h=>tv (D:=fun l=>D ((fn f1,p1)::l)) h fun p=>k f1 p1 p
theorem gL (h:Bo l [1,1]) (k:∀ f0 f1 p0 p1 p2,D [(fn f0,p0),(fn f1,p1),(CC,p2)]):D l:=
 f7 h fun f0 p0 l h=>wh (D:=fun l=>D ((fn f0,p0)::l)) h fun f1 p1 p2=>k f0 f1 p0 p1 p2
theorem l5 (h:Bo l (6::ks)) (k:∀ f p l,Bo l ks->D ((wl f,p)::l)):D l:=jG h fun c p l e h=>by obtain ⟨f,rfl⟩:=FU e;exact k f p l h
theorem DA (h:Bo l [4,1]) (k:∀ f0 f1 p0 p1 p2,D [(cq f0,p0),(fn f1,p1),(CC,p2)]):D l:=
 Dz h fun f0 p0 l h=>wh (D:=fun l=>D ((cq f0,p0)::l)) h fun f1 p1 p2=>k f0 f1 p0 p1 p2
theorem uu (h:Bo l [1,1,1,4,1]) (k:∀ f0 f1 f2 f3 f4 p0 p1 p2 p3 p4 p5,D [(fn f0,p0),(fn f1,p1),(fn f2,p2),(cq f3,p3),(fn f4,p4),(CC,p5)]):D l:=
 f7 h fun f0 p0 l h=>f7 (D:=fun l=>D ((fn f0,p0)::l)) h fun f1 p1 l h=>f7 (D:=fun l=>D ((fn f0,p0)::(fn f1,p1)::l)) h fun f2 p2 l h=>DA (D:=fun l=>D ((fn f0,p0)::(fn f1,p1)::(fn f2,p2)::l)) h fun f3 f4 p3 p4 p5=>k f0 f1 f2 f3 f4 p0 p1 p2 p3 p4 p5
end
section
variable {M:Model}{Γ:Ctx}{c:Code}{Q:Result->Shared->Prop}{p:Pos}{s:Shared}(aF:Γ.code=c)
include aF
theorem lc {ks:List Nat}(hc:dW Γ=(none,none,none,ks,some CC)) (k:∀ l,Bo l ks->wpCode M ⟨c,none,none,l,none⟩ Q p s):wpCode M Γ Q p s:=by
 obtain ⟨c,a,b,l,q⟩:=Γ
 obtain ⟨rfl,rfl,rfl,e⟩:=pE hc
 subst aF
 exact k l e
theorem FV (hc:dW Γ=(none,none,none,[],some CC)) (k:∀ p1,wpCode M ⟨c,none,none,[(CC,p1)],none⟩ Q p s):wpCode M Γ Q p s:=
 lc aF hc fun l h=>tv (D:=fun l=>wpCode M ⟨c,none,none,l,none⟩ Q p s) h k
theorem tw (hc:dW Γ=(none,none,none,[1],some CC)) (k:∀ f1 p1 p2,wpCode M ⟨c,none,none,[(fn f1,p1),(CC,p2)],none⟩ Q p s):wpCode M Γ Q p s:=
 lc aF hc fun l h=>wh (D:=fun l=>wpCode M ⟨c,none,none,l,none⟩ Q p s) h k
theorem uv (hc:dW Γ=(none,none,none,[1,1,1,4,1],some CC)) (k:∀ f0 f1 f2 f3 f4 p0 p1 p2 p3 p4 p5,wpCode M ⟨c,none,none,[(fn f0,p0),(fn f1,p1),(fn f2,p2),(cq f3,p3),(fn f4,p4),(CC,p5)],none⟩ Q p s):wpCode M Γ Q p s:=
 lc aF hc fun l h=>uu (D:=fun l=>wpCode M ⟨c,none,none,l,none⟩ Q p s) h k
noncomputable def lp (b:Bool) (f:FL) (g:WL):Code:=@Bool.rec (fun _=>Code) (wl g) (fl f) b
end
section
variable {E:En}{d:Drawn}{os:OsState}
theorem eD {m:Mm}:∀ {is:List Nat}{bm:Mm},is.map (Y m)=bm.map some->aZ m is=bm
 | [],[],_=>rfl
 | [],_::_,h=>nomatch h
 | _::_,[],h=>nomatch h
 | i::is,x::bm,h=>by
  rw [List.map_cons,List.map_cons] at h
  injection h with h1 h2
  show (match Y m i with | some x=>x::aZ m is | none=>aZ m is)=_
  rw [h1]
  dsimp only
  rw [eD h2]
noncomputable def ay.sub (X:Type) (x0:X) (code:Code) (ks is:List Nat) (bm:Mm) (nd:is.Nodup) (hl:ah bm=is.length) (f:X->Flow) (m':X->Mm) (n' a8:X->Nat) (says:X->Prop)
  (same:∀ x,((m' x).take is.length).map (·.1)=bm.map (·.1))
  (H:∀ (Γ:Ctx) (h:Heap) (g:Array GenState) (p:Pos) (n tk:Nat) (Q:Result->Shared->Prop),Γ.code=code->dW Γ=(none,none,none,ks,some CC)->E.G g->Rep E h is.length bm n h->
   (∀ x,says x->∀ h' g',E.G g'->Rep E h is.length (m' x) (n' x) h'->Q (.ok (f x)) ⟨h',g',d,a8 x,os⟩)->wpCode (Mo E) Γ Q p ⟨h,g,d,tk,os⟩):ay E d os where
 X:=X
 x0:=x0
 L:=_
 look q:=(q.code,is.map (Y q.m),dW q.Γ)
 v:=(code,bm.map some,(none,none,none,ks,some CC))
 ans x q:=⟨.pure (.done (f x)),q.p,eC q.m is (m' x),n' x,a8 x,[]⟩
 says:=says
 holds:=by
  intro V U hs q Q h g e hc hg hr kk
  obtain ⟨e1,e⟩:=Prod.ext_iff.mp e
  obtain ⟨e2,e3⟩:=Prod.ext_iff.mp e
  dsimp only at e1 e2 e3
  have es:=eD e2
  have f8:ah (aZ q.m is)=is.length:=by rw [es];exact hl
  have dK:=hr.sub is (aE f8) nd
  rw [es] at dK
  refine H q.Γ h g q.p q.n q.tk Q (hc.trans e1) e3 hg dK fun x sx h' g' bn bS=>?_
  exact kk x sx h' g' bn (hr.join' is nd f8 bS (by rw [es];exact same x))
end
theorem bY {E:En}{V h:Heap}{U n i a:Nat}{m:Mm}{o:Obj}(r:Rep E V U m n h) (e:Y m i=some (a+1109,o)):∃ j,n=j+1109:=⟨n - 1109,(Nat.sub_add_cancel (Nat.le_of_lt (Nat.lt_of_le_of_lt (Nat.le_add_left 1109 a) (r.lt e)))).symm⟩
noncomputable abbrev KV:=List (Int×Int)
noncomputable def Tells (es:Array DictEntry) (l:KV):Prop:=es.toList.map (fun e=>(e.hash,a9 e.key,a9 e.val))=l.map fun x=>(hashInt x.1,Value.int x.1 0,Value.int x.2 0)
noncomputable def lk:KV->Int->Option Int
 | [],_=>none
 | x::l,k=>if x.1=k then some x.2 else lk l k
noncomputable def putL:KV->Int->Int->KV
 | [],k,c=>[(k,c)]
 | x::l,k,c=>if x.1=k then (x.1,c)::l else x::putL l k c
noncomputable def ct (l:KV) (k:Int):Int:=(lk l k).getD 0
theorem Bg {l:KV}{k v:Int}(h:(k,v)∈l):∃ c,lk l k=some c:=by
 induction l with
 | nil=>cases h
 | cons y l ih=>
  show ∃ c,(if y.1=k then some y.2 else lk l k)=some c
  by_cases e:y.1=k
  ·rw [if_pos e];exact ⟨_,rfl⟩
  ·rw [if_neg e]
   rcases List.mem_cons.mp h with rfl | h
   ·exact absurd rfl e
   ·exact ih h
theorem jf:Tells #[] []:=rfl
theorem pF {e:DictEntry}{es:List DictEntry}{l:KV}(h:Tells (e::es).toArray l):∃ k c t u r,e=⟨hashInt k,.int k t,.int c u⟩/\l=(k,c)::r/\Tells es.toArray r:=by
 unfold Tells at h
 cases l with
 | nil=>simp at h
 | cons x r=>
  simp only [List.map_cons] at h
  injection h with h1 h2
  simp only [Prod.mk.injEq] at h1
  obtain ⟨a,b,c⟩:=h1
  obtain ⟨t,hb⟩:=aO b
  obtain ⟨u,hc⟩:=aO c
  refine ⟨x.1,x.2,t,u,r,?_,rfl,?_⟩
  ·cases e;simp_all
  ·unfold Tells;simpa using h2
theorem iu {k c:Int}{t u:Tok}{es:List DictEntry}{l:KV}(h:Tells es.toArray l):Tells (⟨hashInt k,.int k t,.int c u⟩::es).toArray ((k,c)::l):=by
 unfold Tells at h ⊢
 simp only [List.map_cons]
 simp only at h
 rw [h];rfl
theorem Tells.ind {P:List DictEntry->KV->Prop}(h0:P [] []) (h1:∀ k c t u es l,Tells es.toArray l->P es l->P (⟨hashInt k,.int k t,.int c u⟩::es) ((k,c)::l)):∀ (es:List DictEntry) (l:KV),Tells es.toArray l->P es l
 | [],l,h=>by
  cases l with
  | nil=>exact h0
  | cons x r=>simp [Tells] at h
 | e::es,l,h=>by
  obtain ⟨k,c,t,u,r,rfl,rfl,h'⟩:=pF h
  exact h1 k c t u es r h' (Tells.ind h0 h1 es r h')
theorem Tells.keys {es:Array DictEntry}{l:KV}(h:Tells es l):IntKeys es:=by
 obtain ⟨es⟩:=es
 refine Tells.ind (P:=fun es l=>IntKeys es.toArray) (fun e he=>by simp at he) (fun k c t u es l _ ih e he=>?_) es l h
 rcases List.mem_cons.mp (by simpa using he) with rfl | he
 ·exact ⟨k,t,rfl,rfl⟩
 ·exact ih e (by simpa using he)
theorem Tells.size {es:Array DictEntry}{l:KV}(h:Tells es l):es.size=l.length:=by
 have:=congrArg List.length h
 simpa using this
theorem jg (k k':Int) (t:Tok):Value.isInt k (.int k' t)=decide (k'=k):=by
 show (k'==k)=_
 by_cases h:k'=k
 ·subst h;simp
 ·rw [decide_eq_false h];exact beq_eq_false_iff_ne.mpr h
theorem Tells.get {es:Array DictEntry}{l:KV}(h:Tells es l) (k:Int):(∃ c t,lk l k=some c/\findBy Value.isInt es k=some (.int c t))∨(lk l k=none/\findBy Value.isInt es k=none):=by
 obtain ⟨es⟩:=es
 refine Tells.ind (P:=fun es l=>(∃ c t,lk l k=some c/\findBy Value.isInt es.toArray k=some (.int c t))∨(lk l k=none/\findBy Value.isInt es.toArray k=none)) (.inr ⟨rfl,rfl⟩) (fun k' c t u es l _ ih=>?_) es l h
 unfold findBy at ih ⊢
 simp only [List.find?_toArray] at ih ⊢
 rw [List.find?_cons]
 show (∃ c' t',(if k'=k then some c else lk l k)=some c'/\_)∨((if k'=k then some c else lk l k)=none/\_)
 rw [jg]
 by_cases e:k'=k
 ·rw [if_pos e,decide_eq_true e]
  exact .inl ⟨c,u,rfl,rfl⟩
 ·rw [if_neg e,decide_eq_false e]
  exact ih
theorem Tells.hit {es:Array DictEntry}{l:KV}(h:Tells es l) {k c:Int}(e:lk l k=some c):∃ t,findBy Value.isInt es k=some (.int c t):=by
 rcases h.get k with ⟨c',t,e1,e2⟩ | ⟨e1,_⟩
 ·rw [e] at e1;cases e1;exact ⟨t,e2⟩
 ·rw [e] at e1;cases e1
theorem Tells.at {es:Array DictEntry}{l:KV}(h:Tells es l) {i:Nat}{x:Int×Int}(e:l[i]?=some x):∃ t u,es[i]?=some ⟨hashInt x.1,.int x.1 t,.int x.2 u⟩:=by
 obtain ⟨es⟩:=es
 revert i x e
 refine Tells.ind (P:=fun es l=>∀ {i:Nat}{x:Int×Int},l[i]?=some x->∃ t u,es.toArray[i]?=some ⟨hashInt x.1,.int x.1 t,.int x.2 u⟩) (fun {i x} e=>by simp at e) (fun k c t u es l _ ih {i x} e=>?_) es l h
 cases i with
 | zero=>simp at e;subst e;exact ⟨t,u,rfl⟩
 | succ i=>
  obtain ⟨t',u',z⟩:=ih (by simpa using e)
  exact ⟨t',u',by simpa using z⟩
noncomputable def jH (es:List DictEntry) (k:Int) (key v:Value):List DictEntry:=match es.findIdx? fun e=>Value.isInt k e.key with
 | some i=>es.modify i fun e=>{e with val:=v}
 | none=>es++[⟨hashInt k,key,v⟩]
theorem rO (es:List DictEntry) (k:Int) (key v:Value):(eu es.toArray k key v).toList=jH es k key v:=by
 unfold eu jH
 rw [List.findIdx?_toArray]
 cases es.findIdx? fun e=>Value.isInt k e.key with
 | none=>simp
 | some i=>simp
theorem Tells.put {es:Array DictEntry}{l:KV}(h:Tells es l) (k c:Int) (t u:Tok):Tells (eu es k (.int k t) (.int c u)) (putL l k c):=by
 obtain ⟨es⟩:=es
 have key:∀ (es:List DictEntry) (l:KV),Tells es.toArray l->(jH es k (.int k t) (.int c u)).map (fun e:DictEntry=>(e.hash,a9 e.key,a9 e.val))=(putL l k c).map fun x=>(hashInt x.1,Value.int x.1 0,Value.int x.2 0):=by
  intro es l h
  refine Tells.ind (P:=fun es l=>(jH es k (.int k t) (.int c u)).map (fun e:DictEntry=>(e.hash,a9 e.key,a9 e.val))=(putL l k c).map fun x=>(hashInt x.1,Value.int x.1 0,Value.int x.2 0)) rfl (fun k' c' t' u' es l hl ih=>?_) es l h
  unfold jH at ih ⊢
  rw [List.findIdx?_cons,jg]
  have f8:es.map (fun e:DictEntry=>(e.hash,a9 e.key,a9 e.val))=l.map fun x=>(hashInt x.1,Value.int x.1 0,Value.int x.2 0):=hl
  by_cases e:k'=k
  ·rw [decide_eq_true e]
   subst e
   show ((⟨hashInt k',.int k' t',.int c u⟩::es:List DictEntry).map _)=((if k'=k' then (k',c)::l else _):KV).map _
   rw [if_pos rfl,List.map_cons,List.map_cons,f8];rfl
  ·rw [decide_eq_false e]
   show _=((if k'=k then (k',c)::l else (k',c')::putL l k c):KV).map _
   rw [if_neg e,List.map_cons]
   simp only [Bool.false_eq_true,if_false]
   cases q:es.findIdx? fun e=>Value.isInt k e.key with
   | none=>rw [q] at ih;simp only [Option.map_none] at ih ⊢;rw [List.cons_append,List.map_cons,ih];rfl
   | some i=>rw [q] at ih;simp only [Option.map_some] at ih ⊢;rw [List.modify_succ_cons,List.map_cons,ih];rfl
 unfold Tells
 rw [rO]
 exact key es l h
theorem cG {n:Nat}(h:n<=1000):n<=sizeLine:=Nat.le_trans h (by unfold sizeLine;decide)
noncomputable def arrOf (l:KV):Array DictEntry:=(l.map fun x=>(⟨hashInt x.1,.int x.1 0,.int x.2 0⟩:DictEntry)).toArray
theorem dR (l:KV):Tells (arrOf l) l:=by
 unfold Tells arrOf
 simp only [List.map_map]
 refine List.map_congr_left fun x _=>rfl
theorem nD (l:KV) (k c:Int):(putL l k c).length<=l.length+1:=by
 induction l with
 | nil=>exact Nat.le_refl _
 | cons x l ih=>
  show (if x.1=k then (x.1,c)::l else x::putL l k c).length<=_
  split
  ·simp
  ·simpa using ih
section
variable {E:En}{A:Around}{X:Value->Shared->Prop}{s:Shared}
theorem Bh {Γ:Ctx}{R:Result->Shared->Prop}{p:Pos}{d:Addr}{o:Obj}{es:Array DictEntry}{ep:Nat}(aF:Γ.code=.builtin "dict.__len__" ⟨[.ref d],[]⟩) (dx:(d==sysModules)=false)
  (ho:s.heap.get? d=some o) (hd:o.data=.dict es ep) (j7:ip E o) (base:∀ a o,E.T.get a=some o->g8 a E.mu=false->s.heap.get? a=some o)
  (h:R (.ok (.ret (.int es.size s.toks))) {s with toks:=s.toks+1}):wpCode (Mo E) Γ R p s:=by
 refine am aF F.entry_dict_len ?_
 show wp _ _ (Builtin.Dict.notOrdered "__len__" ⟨[.ref d],[]⟩>>=fun _=>dictSize d>>=fun n=>Builtin.Dict.pendingCount d>>=fun m=>retInt ((n:Int)+m)) _ _ _ _
 rw [Sem.wp_bind']
 refine Sem.wp_mono _ _ _ (fun a p' s1 h'=>?_) (fun e p' s' h'=>h'.elim) _ _ (aR (Q:=fun a s1=>s1=s) (E:=fun _ _=>False) (fu rfl ho j7 base rfl) p)
 rw [h',Sem.wp_bind']
 refine Sem.wp_mono _ _ _ (fun a p' s1 h'=>?_) (fun e p' s' h'=>h'.elim) _ _ (aR (Q:=fun a s1=>a=es.size/\s1=s) (E:=fun _ _=>False) ?_ p')
 ·obtain ⟨rfl,rfl⟩:=h'
  rw [Sem.wp_bind']
  unfold Builtin.Dict.pendingCount
  rw [dx]
  simp only [Bool.false_eq_true,if_false]
  exact h
 ·unfold dictSize
  exact wpAny_bind (wpAny_dictEntries ho hd (wpAny_pure ⟨rfl,rfl⟩))
end
section
variable {E:En}{d:Drawn}{os:OsState}
noncomputable def FW (i:Nat) (a:Addr) (o:Obj) (es:Array DictEntry) (ep:Nat) (dx:(a==sysModules)=false) (hd:o.data=.dict es ep) (j7:ip E o) (k:Nat) (hk:es.size=k):ay E d os:=
 ay.leaf Unit () (fun q=>(bG q.code,Y q.m i)) (some ("dict.__len__",[.ref a]),some (a,o)) (fun _ q=>.int (Int.ofNat k) q.tk) (fun _ q=>q.m) (fun _ q=>q.n) (fun _ q=>q.tk+1) (fun _=>True) (by
  intro V U q Q h g e hc hg hr kk
  obtain ⟨e1,e2⟩:=Prod.ext_iff.mp e
  obtain ⟨pos,e3,e4⟩:=b7 e1
  have hp:pos=[.ref a]:=by
   rcases pos with _ | ⟨x,_ | ⟨y,l⟩⟩
   ·cases e4
   ·rw [List.map_cons,List.map_nil] at e4
    injection e4 with e4 _
    rw [bw e4]
   ·rw [List.map_cons,List.map_cons] at e4
    injection e4 with _ e4
    cases e4
  subst hp
  refine Bh (hc.trans e3) dx (hr.own _ _ _ e2) hd j7 hr.base ?_
  have z:=kk () trivial h g hg hr
  subst hk
  exact z)
end
noncomputable def dy (x left step:Int):Obj:=⟨.type "range_iterator",none,.fields #[.int x 0,.int left 0,.int step 0],#[]⟩
noncomputable def bP (l i:Nat):Obj:=⟨.type "list_iterator",none,.fields #[.ref l,.int i 0],#[]⟩
noncomputable def ad (xs:Array Value) (e:Nat):Obj:=⟨.type "list",none,.seq xs e,#[]⟩
section
variable {E:En}{A:Around}{X:Value->Shared->Prop}{s:Shared}
noncomputable def fy:Obj:=⟨.type "tuple",none,.seq #[] 0,#[]⟩
noncomputable def kK (t:Nat):Obj:=⟨.type "StopIteration",none,.fields #[.ref t,.none,.none,.none,.bool false,.none],#[]⟩
theorem j8 {Q:α->Shared->Prop}(hh:A.handled=none) (h:X (.ref (s.heap.objs.size+1)) {s with heap:=(s.heap.push fy).push (kK s.heap.objs.size)}):wpAny (Mo E) A (newExc (.type "StopIteration") []>>=fun e=>(raiseNew e:Sem α)) Q X s:=by
 refine wpAny_bind ?_
 simp only [newExc,newTuple]
 refine wpAny_bind (wpAny_newObj_type ?_ (by size_fits))
 refine wpAny_bind (m:=firstArgMember _ _) (wpAny_of_eq (a:=Value.none) (by first | rfl | (simp only [firstArgMember];rfl)) ?_)
 refine wpAny_newObj_type ?_ (by size_fits)
 simp only [raiseNew]
 refine wpAny_bind (wpAny_handled ?_)
 rw [hh]
 refine wpAny_bind (wpAny_pure (wpAny_throw ?_))
 have e:(s.heap.push fy).objs.size=s.heap.objs.size+1:=Heap.size_push ..
 rw [<- e] at h
 exact h
theorem oo (hh:A.handled=none) {it:Addr}{x left:Int}{Q:PySem.Fin->Shared->Prop}(hit:s.heap.get? it=some (dy x left 1)) (hl:left<=0)
  (h:X (.ref (s.heap.objs.size+1)) {s with heap:=(s.heap.push fy).push (kK s.heap.objs.size)}):wpAny (Mo E) A (Builtin.«range_iterator.__next__» ⟨[.ref it],[]⟩) Q X s:=by
 show wpAny _ _ (field (.ref it) 0>>=_) _ _ s
 refine wpAny_bind (wpAny_field hit rfl (x:=rawInt x) rfl ?_)
 show wpAny _ _ (field (.ref it) 1>>=_) _ _ s
 refine wpAny_bind (wpAny_field hit rfl (x:=rawInt left) rfl ?_)
 show wpAny _ _ (field (.ref it) 2>>=_) _ _ s
 refine wpAny_bind (wpAny_field hit rfl (x:=rawInt 1) rfl ?_)
 show wpAny _ _ (if left<=0 then _ else _) _ _ s
 rw [if_pos hl]
 refine wpAny_bind (wpAny_rule ?_)
 refine wpAny_bind ?_
 exact j8 hh h
theorem op {it l:Addr}{i e:Nat}{xs:Array Value}{v:Value}{Q:PySem.Fin->Shared->Prop}(hit:s.heap.get? it=some (bP l i)) (hl:s.heap.get? l=some (ad xs e)) (hx:xs[i]?=some v)
  (h:∀ h',h'.get? it=some (bP l (i+1))->Heap.SameBut it s.heap h'->Q (.done (.ret v)) {s with heap:=h'}):wpAny (Mo E) A (Builtin.«list_iterator.__next__» ⟨[.ref it],[]⟩) Q X s:=by
 show wpAny _ _ (field (.ref it) 0>>=_) _ _ s
 refine wpAny_bind (wpAny_field hit rfl (x:=.ref l) rfl ?_)
 show wpAny _ _ (if (Value.ref l==Value.none)=true then _ else _) _ _ s
 rw [if_neg (show ¬ ((Value.ref l==Value.none)=true) from Bool.false_ne_true)]
 show wpAny _ _ (field (.ref it) 1>>=_) _ _ s
 refine wpAny_bind (wpAny_field hit rfl (x:=rawInt i) rfl ?_)
 refine wpAny_bind (wpAny_seqItems hl rfl ?_)
 simp only [rawInt,Int.toNat_natCast,hx]
 refine wpAny_bind (wpAny_setField_rec hit (by simp) fun h₁ bO bv=>?_)
 have he:h₁.get? it=some (bP l (i+1)):=bO
 exact wpAny_pure (h h₁ he bv)
theorem oq (hh:A.handled=none) {it l:Addr}{i e:Nat}{xs:Array Value}{Q:PySem.Fin->Shared->Prop}(hit:s.heap.get? it=some (bP l i)) (hl:s.heap.get? l=some (ad xs e)) (hx:xs.size<=i)
  (h:∀ h' o',h'.get? it=some o'->Heap.SameBut it s.heap h'->X (.ref (s.heap.objs.size+1)) {s with heap:=(h'.push fy).push (kK s.heap.objs.size)}):wpAny (Mo E) A (Builtin.«list_iterator.__next__» ⟨[.ref it],[]⟩) Q X s:=by
 show wpAny _ _ (field (.ref it) 0>>=_) _ _ s
 refine wpAny_bind (wpAny_field hit rfl (x:=.ref l) rfl ?_)
 show wpAny _ _ (if (Value.ref l==Value.none)=true then _ else _) _ _ s
 rw [if_neg (show ¬ ((Value.ref l==Value.none)=true) from Bool.false_ne_true)]
 show wpAny _ _ (field (.ref it) 1>>=_) _ _ s
 refine wpAny_bind (wpAny_field hit rfl (x:=rawInt i) rfl ?_)
 refine wpAny_bind (wpAny_seqItems hl rfl ?_)
 simp only [rawInt,Int.toNat_natCast,Array.getElem?_eq_none hx]
 refine wpAny_bind (wpAny_rule ?_)
 refine wpAny_bind (wpAny_setField_rec hit (by simp) fun h₁ bO bv=>?_)
 refine j8 hh ?_
 have z:=h h₁ _ bO bv
 rw [<- bv.1] at z
 exact z
end
section
variable {E:En}{d:Drawn}{os:OsState}
theorem gM {c:Code}{id:String}{a:Addr}(h:bG c=some (id,[.ref a])):c=.builtin id ⟨[.ref a],[]⟩:=by
 obtain ⟨pos,e3,e4⟩:=b7 h
 rcases pos with _ | ⟨x,_ | ⟨y,l⟩⟩
 ·cases e4
 ·rw [List.map_cons,List.map_nil] at e4
  injection e4 with e4 _
  rw [e3,bw e4]
 ·rw [List.map_cons,List.map_cons] at e4
  injection e4 with _ e4
  cases e4
theorem gX:entryFor table "list_iterator.__next__"=some Builtin.«list_iterator.__next__»:=entryFor_of_fast (by kernel_rfl)
noncomputable def ay.stop {L:Type}(X:Type) (x0:X) (look:Ask->L) (v:L) (m':X->Ask->Mm)
  (H:∀ (V:Heap) (U:Nat) (q:Ask) (Q:Result->Shared->Prop) (h:Heap) (g:Array GenState),look q=v->q.Γ.code=q.code->E.G g->Rep E V U q.m q.n h->
   (∀ x h',Rep E V U (m' x q) q.n h'->Q (.error (.ref (q.n+1))) ⟨(h'.push fy).push (kK q.n),g,d,q.tk,os⟩)->wpCode (Mo E) q.Γ Q q.p ⟨h,g,d,q.tk,os⟩):ay E d os where
 X:=X
 x0:=x0
 L:=L
 look:=look
 v:=v
 ans x q:=⟨.raise (.ref (q.n+1)),q.p,bh (bh (m' x q) (q.n,fy)) (q.n+1,kK q.n),q.n+2,q.tk,[]⟩
 says _:=True
 holds V U hs:=fun q Q h g e hc hg hr k=>H V U q Q h g e hc hg hr fun x h' bS=>by
  have r1:=bS.push (o:=fy) rfl
  have r2:=r1.push (o:=kK q.n) rfl
  exact k x trivial _ g hg r2
noncomputable def wi (i:Nat) (it:Nat) (x left:Int) (hl:left<=0):ay E d os:=
 ay.stop Unit () (fun q=>(bG q.code,Y q.m i,q.Γ.handled)) (some ("range_iterator.__next__",[.ref it]),some (it,dy x left 1),none) (fun _ q=>q.m) (by
  intro V U q Q h g e' hc hg hr kk
  simp only [Prod.mk.injEq] at e'
  obtain ⟨e1,e2,e4⟩:=e'
  refine am (hc.trans (gM e1)) F.entry_range_iterator_next ?_
  refine Sem.wp_mono _ _ _ (fun a p' s' h'=>h'.elim) (fun e p' s' h'=>h') _ _ (aR (Q:=fun f s'=>False) (E:=fun e s'=>Q (.error e) s')
   (oo (show (fb q.Γ).handled=none from e4) (hr.own _ _ _ e2) hl ?_) _)
  have z:=kk () h hr
  rw [<- hr.size] at z
  exact z)
noncomputable def cH (i j:Nat) (it l k ep:Nat) (xs:Array Value) (v:Value) (hx:xs[k]?=some v):ay E d os:=
 ay.leaf Unit () (fun q=>(bG q.code,Y q.m i,Y q.m j)) (some ("list_iterator.__next__",[.ref it]),some (it,bP l k),some (l,ad xs ep)) (fun _ _=>v) (fun _ q=>aK q.m i (bP l (k+1))) (fun _ q=>q.n) (fun _ q=>q.tk) (fun _=>True) (by
  intro V U q Q h g e' hc hg hr kk
  simp only [Prod.mk.injEq] at e'
  obtain ⟨e1,e2,e3⟩:=e'
  refine am (hc.trans (gM e1)) gX ?_
  refine Sem.wp_mono _ _ _ (fun a p' s' h'=>?_) (fun e p' s' h'=>h'.elim) _ _ (aR (Q:=fun f s'=>∃ v,f=.done (.ret v)/\Q (.ok (.ret v)) s') (E:=fun _ _=>False)
   (op (hr.own _ _ _ e2) (hr.own _ _ _ e3) hx fun h' he hs=>⟨_,rfl,kk () trivial h' g hg (hr.chg e2 he (hs.1.trans hr.size) (Nat.le_refl _) fun b x hb hx=>(hs.2 b hb).trans hx)⟩) _)
  obtain ⟨v,rfl,h'⟩:=h'
  exact h')
noncomputable def jI (i j:Nat) (it l k ep:Nat) (xs:Array Value) (hx:xs.size<=k):ay E d os:=
 ay.stop Obj fy (fun q=>(bG q.code,Y q.m i,Y q.m j,q.Γ.handled)) (some ("list_iterator.__next__",[.ref it]),some (it,bP l k),some (l,ad xs ep),none) (fun o q=>aK q.m i o) (by
  intro V U q Q h g e' hc hg hr kk
  simp only [Prod.mk.injEq] at e'
  obtain ⟨e1,e2,e3,e4⟩:=e'
  refine am (hc.trans (gM e1)) gX ?_
  refine Sem.wp_mono _ _ _ (fun a p' s' h'=>h'.elim) (fun e p' s' h'=>h') _ _ (aR (Q:=fun f s'=>False) (E:=fun e s'=>Q (.error e) s')
   (oq (show (fb q.Γ).handled=none from e4) (hr.own _ _ _ e2) (hr.own _ _ _ e3) hx fun h' o' he hs=>?_) _)
  have z:=kk o' h' (hr.chg e2 he (hs.1.trans hr.size) (Nat.le_refl _) fun b x hb hx=>(hs.2 b hb).trans hx)
  rw [<- hr.size] at z
  exact z)
end
section
open PySem.W
noncomputable section
abbrev pw:Program:=PySem.Challenge.pw_dn0006_04
noncomputable def Cz:List Stmt:=pw.main.body
noncomputable def st (i:Nat):Stmt:=Cz.getD i (.Pass ⟨0,0,0,0⟩)
noncomputable def FX:Stmt->List Stmt
 | .FunctionDef _ _ b _ _ _ _ _ _ _=>b
 | .ClassDef _ _ _ b _ _ _ _ _ _ _=>b
 | _=>[]
noncomputable def Ix:Stmt->Arguments
 | .FunctionDef _ a _ _ _ _ _ _ _ _=>a
 | _=>default
noncomputable def Iy:Stmt->Scope
 | .FunctionDef _ _ _ _ _ _ s _ _ _=>s
 | _=>default
noncomputable def sc (i j:Nat):Stmt:=(FX (st i)).getD j (.Pass ⟨0,0,0,0⟩)
noncomputable def fo (s:Stmt) (name qual:Str) (globals:Addr) (closure:List (Str×Addr)) (dflt rP doc Iz:Value) (IA:Option Addr) (code FY:Value) (bi:Addr):FuncData:=
 ⟨name,qual,Ix s,.stmts (FX s),Iy s,globals,closure,dflt,rP,doc,Iz,IA,code,FY,bi⟩
noncomputable def en (P:Params) (z:Str) (t:Tok) (v:Value):DictEntry:=⟨PyData.keyHash P z,.str z t,v⟩
noncomputable def tr (f:Nat->Obj) (n:Nat) (d:Nat):Nat->Nat->BT:=
 @Nat.rec (fun _=>Nat->Nat->BT) (fun _ _=>.nil) (fun _ ih a b=>@Bool.rec (fun _=>BT) .nil (.node (f b) (ih (Nat.mul 2 a) (Nat.add a b)) (ih (Nat.mul 2 a) (Nat.add (Nat.mul 2 a) b))) (Nat.blt b n)) d
noncomputable def bD:Drawn:={}
section
noncomputable def sY(l:List Nat):Str:=⟨⟨l⟩⟩
noncomputable def sG(n:Nat):Nat->List Nat:=@Nat.rec (fun _=>Nat->List Nat) (fun _=>[]) (fun _ ih n=>@Bool.rec (fun _=>List Nat) (Nat.mod n 256::ih (Nat.div n 256)) [] (Nat.beq n 0)) n
noncomputable def sZ(n:Nat):Str:=⟨⟨sG 999 n⟩⟩
noncomputable def eN(P:Params)(z:Str)(t:Nat):=en P z t .none
noncomputable def eR(P:Params)(z:Str)(t a:Nat):=en P z t (.ref a)
noncomputable def eS(P:Params)(z:Str)(t:Nat)(y:Str)(u:Nat):=en P z t (.str y u)
noncomputable def eB(P:Params)(z:Str)(t:Nat)(q:String):=en P z t (.builtin q)
noncomputable def eT(P:Params)(z:Str)(t:Nat)(q:String):=en P z t (.type q)
noncomputable def eI(P:Params)(z:Str)(t:Nat)(i:Int)(u:Nat):=en P z t (.int i u)
noncomputable def eO(P:Params)(z:Str)(t:Nat)(b:Bool):=en P z t (.bool b)
noncomputable def oD(q:String)(l:List DictEntry)(n:Nat):Obj:=⟨.type q,.none,.dict ⟨l⟩ n,⟨[]⟩⟩
noncomputable def oE(l:List DictEntry)(n:Nat):Obj:=⟨.none,.none,.dict ⟨l⟩ n,⟨[]⟩⟩
noncomputable def wj{α:Type}(l:List α):Nat->List α:=@List.rec α (fun _=>Nat->List α) (fun _=>[]) (fun x _ ih n=>@Nat.rec (fun _=>List α) [] (fun m _=>x::ih m) n) l
noncomputable def wk{α:Type}(d:α)(l:List α):Nat->α:=@List.rec α (fun _=>Nat->α) (fun _=>d) (fun x _ ih n=>@Nat.rec (fun _=>α) x (fun m _=>ih m) n) l
noncomputable def cR(f:Nat->Obj)(l:List (Nat×Obj))(b _:Nat):Obj:=@List.rec (Nat×Obj) (fun _=>Obj) (f b) (fun x _ ih=>@Bool.rec (fun _=>Obj) ih x.2 (Nat.beq b x.1)) l
def z0:=sZ 0x6362612e736e6f697463656c6c6f63
def z1:=sZ 0x666c6573
def z2:=sZ 0x646e696b5f6362615f
def z3:=sZ 0x5f5f656c75646f6d5f5f
def z4:=sZ 0x5f5f6f6e656e696c74737269665f5f
def z5:=sZ 0x5f5f736574756269727474615f6369746174735f5f
def z6:=sZ 0x5f5f726574695f5f
def z7:=sZ 0x736e6f697463656c6c6f632e333133797063
def z8:=sZ 0x5f5f636f645f5f
def z9:=sZ 0x5f5f74696e695f5f
def dL:=sZ 0x736c6f6f7472657469
def eb:=sZ 0x5f5f73746f6c735f5f
def ed:=sZ 0x726568746f
def eG:=sZ 0x5f5f736e6961746e6f635f5f
def fP:=sZ 0x5f5f656d616e6c6175715f5f
def fV:=sZ 0x736c63
def f9:=sZ 0x5f5f727065725f5f
def dq:=sZ 0x6e6f697463656c6c6f43
def eK:=sZ 0x746553
def gt:=sZ 0x77656956676e697070614d
def gu:=sZ 0x5f5f71655f5f
def gN:=sZ 0x656c6261726574695f6d6f72665f
def hU:=sZ 0x43
def iS:=sZ 0x6d656c65
def jh:=sZ 0x5f5f6d6574697465675f7373616c635f5f
def ji:=sZ 0x5f5f7478656e5f5f
def jJ:=sZ 0x5f5f6e656c5f5f
def lg:=sZ 0x676e697070614d
def lh:=sZ 0x676e697070616d5f
def lj:=sZ 0x746e756f63
def l6:=sZ 0x5f5f656c5f5f
def l7:=sZ 0x5f5f746c5f5f
def l8:=sZ 0x5f5f74675f5f
def l9:=sZ 0x5f5f65675f5f
def ma:=sZ 0x5f5f646e615f5f
def mb:=sZ 0x5f5f726f5f5f
def mc:=sZ 0x5f5f6275735f5f
def jK:=sZ 0x64657a6953
def nf:=sZ 0x7265747369676572
def ng:=sZ 0x5f5f6563756465725f5f
def ot:=sZ 0x5f5f656d616e5f5f
def ou:=sZ 0x79656b
def pG:=sZ 0x6174654d434241
def pH:=sZ 0x656b694c4342415f
def pI:=sZ 0x776569567379654b
def pJ:=sZ 0x77656956736d657449
def pK:=sZ 0x776569567365756c6156
def pL:=sZ 0x6e65766947746f4e5f
def pM:=sZ 0x7265747465676d657469
def pN:=sZ 0x7265746e756f43
def pO:=sZ 0x5f5f687361685f5f
def pP:=sZ 0x736d657469
def pQ:=sZ 0x656c626172657469
def pR:=sZ 0x726f74617265706f
def rQ:=sZ 0x79702e7475632f6d69616c632f
def rR:=sZ 0x73746e656d656c655f746e756f635f
def rS:=sZ 0x7473656772616c6e
def rT:=sZ 0
def rU:=sZ 0x5f5f746369645f5f
def rV:=sZ 0x5f5f6665726b6165775f5f
def rW:=sZ 0x656d616e
def rX:=sZ 0x6d657469
def rY:=sZ 0x5f5f6d6574697465675f5f
def rZ:=sZ 0x746c75736572
def uw:=sZ 0x5f5f736e6f697461746f6e6e615f5f
def ux:=sZ 0x6c6c61775f
def uy:=sZ 0x6174656d5f6e69616c705f6362615f
def uA:=sZ 0x726574695f7361685f6362615f
def uB:=sZ 0x6e656c5f7361685f6362615f
def uC:=sZ 0x736e6961746e6f635f7361685f6362615f
def uD:=sZ 0x79786f7270676e697070616d5f73695f6362615f
def uE:=sZ 0x6e6f697463656c6c6f635f6e69746c6975625f73695f6362615f
def pS:=sZ 0x656c626172657449
def uF:=sZ 0x72656e6961746e6f43
def uG:=sZ 0x746e695f73695f
def uH:=sZ 0x656c6f68775f
def uI:=sZ 0x6c6c75705f
def uJ:=sZ 0x6e69616863
def uK:=sZ 0x656e696c5f77616c5f
def uL:=sZ 0x6b63757274735f77616c5f
def uM:=sZ 0x5f5f73646f6874656d74636172747362615f5f
def uN:=sZ 0x746e696f6a7369647369
def uO:=sZ 0x5f5f627573725f5f
def uP:=sZ 0x5f5f726f785f5f
def uQ:=sZ 0x687361685f
def uR:=sZ 0x746567
def uS:=sZ 0x7379656b
def uT:=sZ 0x7365756c6176
def uU:=sZ 0x656c6261726574695f6d6f7266
def uV:=sZ 0x656372756f735f
def uW:=sZ 0x6576697463615f
def uX:=sZ 0x746e656d656c655f
def uY:=sZ 0x746e635f
def uZ:=sZ 0x74695f
def u2:=sZ 0x636e75665f
def u3:=sZ 0x736d6574695f
def u4:=sZ 0x7379656b6d6f7266
def u5:=sZ 0x5f5f7373616c635f5f
def u6:=sZ 0x5f5f6e69616d5f5f
def wm:=sZ 0x71706165685f
def ty:=sZ 0x34305f363030306e645f77616c
def pT:=sZ 0x746165706572
def pU:=sZ 0x70616d72617473
def pV:=sZ 0x77616c
def pW:=sZ 0x5f5f6b6365686365636e6174736e695f5f
def pX:=sZ 0x5f5f6b636568637373616c636275735f5f
def pY:=sZ 0x5f5f746e69685f6874676e656c5f5f
def pZ:=sZ 0x5f5f6c6c61635f5f
def qa:=sZ 0x5f5f676e697373696d5f5f
def qb:=sZ 0x6c61746f74
def qc:=sZ 0x6e6f6d6d6f635f74736f6d
def qe:=sZ 0x73746e656d656c65
def qf:=sZ 0x657461647075
def qg:=sZ 0x7463617274627573
def qh:=sZ 0x79706f63
def qj:=sZ 0x5f5f6d6574696c65645f5f
def qk:=sZ 0x5f5f656e5f5f
def ql:=sZ 0x5f5f6464615f5f
def qm:=sZ 0x5f5f736f705f5f
def qn:=sZ 0x5f5f67656e5f5f
def qo:=sZ 0x6576697469736f705f7065656b5f
def qp:=sZ 0x5f5f646461695f5f
def qq:=sZ 0x5f5f627573695f5f
def qr:=sZ 0x5f5f726f695f5f
def qs:=sZ 0x5f5f646e61695f5f
def tA:=sZ 0x5f5f6567616b6361705f5f
def tB:=sZ 0x5f5f726564616f6c5f5f
def tC:=sZ 0x5f5f636570735f5f
def tD:=sZ 0x736e6f697463656c6c6f635f
def tE:=sZ 0x6575716564
def tF:=sZ 0x79666970616568
def tG:=sZ 0x6563616c70657270616568
def tH:=sZ 0x68746170
def tI:=sZ 0x636261
def tJ:=sZ 0x7469
def tK:=sZ 0x656c6261726574695f6d6f72665f2e746553
def tL:=sZ 0x656c6261726574695f6d6f72665f2e776569567379654b
def tO:=sZ 0x656c6261726574695f6d6f72665f2e77656956736d657449
def tP:=sZ 0x656c6261726574695f6d6f72662e6e69616863
def tQ:=sZ 0x7379656b6d6f72662e7265746e756f43
def tR:=sZ 0x746e756f6377656e
def tS:=sZ 0x746e756f635f726568746f
def wn:=sZ 0x656c75646f6d5f657461657263
def wo:=sZ 0x656c75646f6d5f63657865
def wq:=sZ 0x6567616b6361705f7369
def wr:=sZ 0x656c75646f6d5f64616f6c
def ws:=sZ 0x726564616f6c
def wt:=sZ 0x6e696769726f
def wu:=sZ 0x65746174735f726564616f6c
def wv:=sZ 0x736e6f697461636f6c5f6863726165735f656c75646f6d627573
def ww:=sZ 0x73656c75646f6d6275735f64657a696c616974696e696e755f
def wx:=sZ 0x72747461656c69665f7465735f
def wy:=sZ 0x6465686361635f
def wz:=sZ 0x6f732e756e672d78756e696c2d34365f3638782d3331332d6e6f68747970632e71706165685f2f64616f6c6e79642d62696c2f33312e336e6f687479702f62696c2f35312e33312e332d336e6f687479702d36706837776e6e6877376c36623672306c37636a6d7034796b71363566316a772f65726f74732f78696e2f
def wA:=sZ 0x6c616e72657478655f62696c74726f706d695f6e657a6f72665f
def wB:=sZ 0x72657473696765722e6174654d434241
def wC:=sZ 0x5f5f6b6365686365636e6174736e695f5f2e656b694c4342415f
def wD:=sZ 0x5f5f6b636568637373616c636275735f5f2e656b694c4342415f
def wE:=sZ 0x72657473696765722e656b694c4342415f
def wF:=sZ 0x5f5f726574695f5f2e656c626172657449
def wG:=sZ 0x646e696b5f6362615f2e656c626172657449
def wH:=sZ 0x5f5f6d6574697465675f7373616c635f5f2e656c626172657449
def wI:=sZ 0x5f5f6e656c5f5f2e64657a6953
def wJ:=sZ 0x646e696b5f6362615f2e64657a6953
def wK:=sZ 0x78
def wL:=sZ 0x5f5f736e6961746e6f635f5f2e72656e6961746e6f43
def wM:=sZ 0x646e696b5f6362615f2e72656e6961746e6f43
def wN:=sZ 0x5f5f6d6574697465675f7373616c635f5f2e72656e6961746e6f43
def wO:=sZ 0x646e696b5f6362615f2e6e6f697463656c6c6f43
def wP:=sZ 0x5f5f646e61725f5f
def wQ:=sZ 0x5f5f726f725f5f
def wR:=sZ 0x5f5f726f78725f5f
def wS:=sZ 0x5f5f656c5f5f2e746553
def wT:=sZ 0x5f5f746c5f5f2e746553
def wU:=sZ 0x5f5f74675f5f2e746553
def wV:=sZ 0x5f5f65675f5f2e746553
def wW:=sZ 0x5f5f71655f5f2e746553
def wX:=sZ 0x5f5f646e615f5f2e746553
def wY:=sZ 0x746e696f6a73696473692e746553
def wZ:=sZ 0x5f5f726f5f5f2e746553
def w0:=sZ 0x5f5f6275735f5f2e746553
def w1:=sZ 0x5f5f627573725f5f2e746553
def w2:=sZ 0x5f5f726f785f5f2e746553
def w3:=sZ 0x687361685f2e746553
def w4:=sZ 0x646e696b5f6362615f2e746553
def w5:=sZ 0x5f5f64657372657665725f5f
def w6:=sZ 0x5f5f6d6574697465675f5f2e676e697070614d
def w7:=sZ 0x7465672e676e697070614d
def w8:=sZ 0x5f5f736e6961746e6f635f5f2e676e697070614d
def w9:=sZ 0x7379656b2e676e697070614d
def xa:=sZ 0x736d6574692e676e697070614d
def xb:=sZ 0x7365756c61762e676e697070614d
def xc:=sZ 0x5f5f71655f5f2e676e697070614d
def xd:=sZ 0x646e696b5f6362615f2e676e697070614d
def xf:=sZ 0x5f5f74696e695f5f2e77656956676e697070614d
def xg:=sZ 0x5f5f6e656c5f5f2e77656956676e697070614d
def xh:=sZ 0x5f5f727065725f5f2e77656956676e697070614d
def xi:=sZ 0x646e696b5f6362615f2e77656956676e697070614d
def xj:=sZ 0x5f5f6d6574697465675f7373616c635f5f2e77656956676e697070614d
def xk:=sZ 0x5f5f736e6961746e6f635f5f2e776569567379654b
def xl:=sZ 0x5f5f726574695f5f2e776569567379654b
def xm:=sZ 0x646e696b5f6362615f2e776569567379654b
def xn:=sZ 0x76
def xo:=sZ 0x5f5f736e6961746e6f635f5f2e77656956736d657449
def xp:=sZ 0x5f5f726574695f5f2e77656956736d657449
def xq:=sZ 0x646e696b5f6362615f2e77656956736d657449
def xr:=sZ 0x5f5f736e6961746e6f635f5f2e776569567365756c6156
def xt:=sZ 0x5f5f726574695f5f2e776569567365756c6156
def xu:=sZ 0x646e696b5f6362615f2e776569567365756c6156
def xv:=sZ 0x5f5f74696e695f5f2e6e69616863
def xw:=sZ 0x5f5f726574695f5f2e6e69616863
def xy:=sZ 0x5f5f7478656e5f5f2e6e69616863
def xz:=sZ 0x5f5f74696e695f5f2e746165706572
def xA:=sZ 0x5f5f726574695f5f2e746165706572
def xB:=sZ 0x5f5f7478656e5f5f2e746165706572
def xC:=sZ 0x5f5f727065725f5f2e746165706572
def xD:=sZ 0x5f5f746e69685f6874676e656c5f5f2e746165706572
def xE:=sZ 0x5f5f74696e695f5f2e70616d72617473
def xF:=sZ 0x5f5f726574695f5f2e70616d72617473
def xG:=sZ 0x5f5f7478656e5f5f2e70616d72617473
def xH:=sZ 0x5f5f74696e695f5f2e7265747465676d657469
def xI:=sZ 0x5f5f6c6c61635f5f2e7265747465676d657469
def xJ:=sZ 0x5f5f727065725f5f2e7265747465676d657469
def xK:=sZ 0x5f5f6563756465725f5f2e7265747465676d657469
def xL:=sZ 0x7364776b
def xM:=sZ 0x5f5f74696e695f5f2e7265746e756f43
def xN:=sZ 0x5f5f676e697373696d5f5f2e7265746e756f43
def xO:=sZ 0x6c61746f742e7265746e756f43
def xP:=sZ 0x6e6f6d6d6f635f74736f6d2e7265746e756f43
def xQ:=sZ 0x73746e656d656c652e7265746e756f43
def xR:=sZ 0x6574616470752e7265746e756f43
def xS:=sZ 0x74636172746275732e7265746e756f43
def xT:=sZ 0x79706f632e7265746e756f43
def xU:=sZ 0x5f5f6563756465725f5f2e7265746e756f43
def xV:=sZ 0x5f5f6d6574696c65645f5f2e7265746e756f43
def xW:=sZ 0x5f5f727065725f5f2e7265746e756f43
def xX:=sZ 0x5f5f71655f5f2e7265746e756f43
def xY:=sZ 0x5f5f656e5f5f2e7265746e756f43
def xZ:=sZ 0x5f5f656c5f5f2e7265746e756f43
def x4:=sZ 0x5f5f746c5f5f2e7265746e756f43
def x6:=sZ 0x5f5f65675f5f2e7265746e756f43
def ya:=sZ 0x5f5f74675f5f2e7265746e756f43
def yb:=sZ 0x5f5f6464615f5f2e7265746e756f43
def yc:=sZ 0x5f5f6275735f5f2e7265746e756f43
def yd:=sZ 0x5f5f726f5f5f2e7265746e756f43
def ye:=sZ 0x5f5f646e615f5f2e7265746e756f43
def yf:=sZ 0x5f5f736f705f5f2e7265746e756f43
def yg:=sZ 0x5f5f67656e5f5f2e7265746e756f43
def yh:=sZ 0x6576697469736f705f7065656b5f2e7265746e756f43
def yi:=sZ 0x5f5f646461695f5f2e7265746e756f43
def yj:=sZ 0x5f5f627573695f5f2e7265746e756f43
def yk:=sZ 0x5f5f726f695f5f2e7265746e756f43
def yl:=sZ 0x5f5f646e61695f5f2e7265746e756f43
def CA:=sZ 0x736e69746c697562
def CB:=sZ 0x7463656a626f
def CD:=sZ 0x5f5f656c69665f5f
def CE:=sZ 0x3e656c75646f6d3c
def CF:=sZ 0x62696c74726f706d695f6e657a6f72665f
def CG:=sZ 0x6e692d746c697562
def CI:=sZ 0x65646f635f746567
def CJ:=sZ 0x656372756f735f746567
def CK:=sZ 0x726574726f706d496e69746c697542
def CL:=sZ 0x676e697a696c616974696e695f
def CM:=sZ 0x63657053656c75646f4d
def CN:=sZ 0x736369736142726564616f4c5f
def CO:=sZ 0x656d616e656c69665f746567
def CR:=sZ 0x726564616f4c656c6946
def CS:=sZ 0x726564616f4c656c69466e6f69736e65747845
def CT:=sZ 0x7373616c63627573
def CU:=sZ 0x676e697070616d
def CV:=sZ 0x65756c6176
def CW:=sZ 0x706f74
def CX:=sZ 0x746e63
def CY:=sZ 0x7465675f666c6573
noncomputable def q0:=SL.s2766695959194262286x5
noncomputable def q1:=SL.s14018661285674007319x4
noncomputable def q2:=SL.s2742458400755230247x6
noncomputable def q3:=SL.s11443829558043349243x14
noncomputable def q4:=SL.s4860613602091757760x24
noncomputable def q5:=SL.s9222952809800978799x4
noncomputable def q6:=SL.s17162191345867700912x4
noncomputable def q7:=SL.s10062305145149207511x16
noncomputable def q8:=SL.s7174869446012820540x8
noncomputable def q9:=SL.s591115383303110208x11
noncomputable def DB:=SL.s10852414792293593619x7
noncomputable def DC:=SL.s5856160107412720595x4
noncomputable def FZ:=SL.s4290257624100764138x5
noncomputable def F0:=SL.s5314052453082223887x17
noncomputable def F1:=SL.s9263121217426465444x14
noncomputable def F2:=SL.s261454370922247064x18
noncomputable def F3:=SL.s14755015743595814543x17
noncomputable def F4:=SL.s11030030927630378310x26
noncomputable def F5:=SL.s2094845164707466600x12
noncomputable def ab(a:String):Obj:=⟨.type a,.none,.seq ⟨[]⟩ 0,⟨[]⟩⟩
noncomputable def az:Obj:=⟨.none,.none,.fields ⟨[]⟩,⟨[]⟩⟩
noncomputable def aB(a:Str)(b:Nat)(c:Str)(d e f g:Int)(h:Nat)(i:Int)(j:Nat):Obj:=⟨.type DC,.none,.fields ⟨[.str a b,.str c (Nat.add b 1),.str rQ (Nat.add b 2),.int d 0,.int e 0,.int f 0,.int 0 0,.int g 0,.ref h,.bool true,.int 379 0,.ref (Nat.add h 1),.none,.ref (Nat.add h 2),.ref (Nat.add h 3),.ref (Nat.add h 4),.int i 0,.int d 0,.str rQ j]⟩,⟨[]⟩⟩
noncomputable def aH(a b:Nat)(c d:Str):Obj:=⟨.none,.none,.func (fo (sc a b) c d 0 [] (.none) (.none) (.none) (.none) .none (.none) (.none) 0),⟨[]⟩⟩
noncomputable def aS(a b:Nat)(c d e:Str)(f g:Nat):Obj:=⟨.type q8,.none,.func (fo (sc a b) c d 3 [] (.none) (.none) (.none) (.str e f) .none (.ref g) (.none) 0),⟨[]⟩⟩
noncomputable def bp(a:String)(b:Str)(c:Nat)(d:Str)(e:Nat):Obj:=⟨.type a,.none,.seq ⟨[.str b c,.str d (Nat.add c 1)]⟩ e,⟨[]⟩⟩
noncomputable def cN(a:String)(b:Str)(c d:Nat):Obj:=⟨.type a,.none,.seq ⟨[.str b c]⟩ d,⟨[]⟩⟩
noncomputable def eL(a:String)(b:Nat):Obj:=⟨.type F4,.none,.fields ⟨[.builtin a,.ref b]⟩,⟨[]⟩⟩
noncomputable def gv(a:Str)(b:Nat)(c:Int)(d:Nat)(e f:Int):Obj:=⟨.type DC,.none,.fields ⟨[.str a b,.str a (Nat.add b 1),.str rQ (Nat.add b 2),.int c 0,.int 0 0,.int 0 0,.int 0 0,.int 0 0,.ref d,.bool false,.int e 0,.ref (Nat.add d 1),.none,.none,.none,.none,.int f 0,.int c 0,.str rQ (Nat.add b 4)]⟩,⟨[]⟩⟩
noncomputable def dX(a b:Nat)(c:Str)(d:Nat):Obj:=⟨.type SL.s658472552662922059x5,.none,.plain,⟨[.some (.ref a),.some (.ref 3),.some (.ref b),.none,.some (.str c d),.none,.some (.ref 0)]⟩⟩
noncomputable def eQ(a:Nat):Obj:=⟨.type FZ,.none,.fields ⟨[.ref a,.ref a,.ref a]⟩,⟨[]⟩⟩
noncomputable def fQ(a:Nat)(b:Str):Obj:=⟨.none,.none,.func (fo (st a) b b 0 [] (.none) (.none) (.none) (.none) .none (.none) (.none) 0),⟨[]⟩⟩
noncomputable def fX(a:Nat)(b c:Str)(d e:Nat):Obj:=⟨.type q8,.none,.func (fo (st a) b b 3 [] (.none) (.none) (.none) (.str c d) .none (.ref e) (.none) 0),⟨[]⟩⟩
noncomputable def gw(a:Str)(b:Nat)(c d:Str):Obj:=⟨.type q0,.none,.seq ⟨[.str a b,.str c (Nat.add b 1),.str d (Nat.add b 2)]⟩ 0,⟨[]⟩⟩
noncomputable def kL:Obj:=⟨.type F4,.none,.fields ⟨[.builtin q7,.type q6]⟩,⟨[]⟩⟩
noncomputable def kM(a:Nat):Obj:=⟨.type q0,.none,.seq ⟨[.ref a]⟩ 0,⟨[]⟩⟩
noncomputable def kN(a:Str)(b c:Nat)(d:Int):Obj:=⟨.type SL.s5699418376593618685x17,.none,.fields ⟨[.str a b,.ref c,.builtin SL.s6779124196712981104x10,.builtin SL.s2924395122027826103x14,.int d 0]⟩,⟨[]⟩⟩
noncomputable def kO(a:Str)(b:Nat)(c d e:Str):Obj:=⟨.type q0,.none,.seq ⟨[.str a b,.str c (Nat.add b 1),.str d (Nat.add b 2),.str e (Nat.add b 3)]⟩ 0,⟨[]⟩⟩
noncomputable def md:Obj:=⟨.type q0,.none,.seq ⟨[.none]⟩ 0,⟨[]⟩⟩
noncomputable def nE(a b:Nat):Obj:=⟨.type F3,.none,.fields ⟨[.str rU a,.ref b,.builtin SL.s6511155373996960695x17,.builtin SL.s12411053484034534018x21]⟩,⟨[]⟩⟩
noncomputable def nF(a b:Nat):Obj:=⟨.type F3,.none,.fields ⟨[.str rV a,.ref b,.builtin SL.s10220274742760427390x26,.none]⟩,⟨[]⟩⟩
noncomputable def qt(a:Int)(b:Nat)(c d:Int):Obj:=⟨.none,.none,.fields ⟨[.int a 0,.int 4 0,.ref b,.int c 0,.int 4 0,.ref (Nat.add b 7),.int d 0,.int 4 0,.ref (Nat.add b 14)]⟩,⟨[]⟩⟩
noncomputable def qu(a b:Nat):Obj:=⟨.type q9,(.some a),.fields ⟨[.ref b,.bool false]⟩,⟨[]⟩⟩
noncomputable def qw(a:Str)(b:Nat)(c:Str)(d e:Int)(f:Nat)(g:Int):Obj:=⟨.type DC,.none,.fields ⟨[.str a b,.str c (Nat.add b 1),.str rQ (Nat.add b 2),.int d 0,.int e 0,.int 0 0,.int 0 0,.int 3 0,.ref f,.bool true,.int 379 0,.ref (Nat.add f 1),.none,.none,.none,.ref (Nat.add f 2),.int g 0,.int d 0,.str rQ (Nat.add b 4)]⟩,⟨[]⟩⟩
noncomputable def tT(a:Nat):Obj:=⟨.type SL.s6658869562736209489x6,(.some a),.plain,⟨[]⟩⟩
noncomputable def tU(a b:Nat)(c d e:Str)(f g h:Nat):Obj:=⟨.type q8,.none,.func (fo (sc a b) c d 3 [] (.none) (.none) (.none) (.str e f) (.some g) (.ref h) (.none) 0),⟨[]⟩⟩
noncomputable def tV(a b:Nat)(c d:Str)(e:Nat)(f:Str)(g:Nat):Obj:=⟨.type q8,.none,.func (fo (sc a b) c d 3 [] (.ref e) (.none) (.none) (.str f g) .none (.ref (Nat.add e 6)) (.none) 0),⟨[]⟩⟩
noncomputable def tW(a:Int)(b:Nat)(c:Int)(d:Nat)(e:Int)(f:Nat)(g:Int):Obj:=⟨.none,.none,.fields ⟨[.int a 0,.int 4 0,.ref b,.int c 0,.int 4 0,.ref d,.int e 0,.int 4 0,.ref f,.int g 0,.int 4 0,.ref (Nat.add f 7)]⟩,⟨[]⟩⟩
noncomputable def tX(a:Nat)(b c d e:Str):Obj:=⟨.type q0,.none,.seq ⟨[.str z1 a,.str b (Nat.add a 1),.str c (Nat.add a 2),.str d (Nat.add a 3),.str e (Nat.add a 4)]⟩ 0,⟨[]⟩⟩
noncomputable def tY(a:Nat)(b c d e f:Str):Obj:=⟨.type q0,.none,.seq ⟨[.str z1 a,.str b (Nat.add a 1),.str c (Nat.add a 2),.str d (Nat.add a 3),.str e (Nat.add a 4),.str f (Nat.add a 5)]⟩ 0,⟨[]⟩⟩
noncomputable def ym(a b:Nat):Obj:=⟨.ref a,(.some b),.plain,⟨[]⟩⟩
noncomputable def nG(a:Str)(b c d:Nat):Obj:=⟨.ref 110,.none,.cls ⟨a,[.type q2],[.ref b,.type q2],c,a,false,[],[.ref 276],true,.none,false⟩,⟨[.none,.none,.some (.str a d),.some (.str a (Nat.add d 8)),.some (.builtin q3),.some (.bool false)]⟩⟩
noncomputable def yn(a:Nat):Obj:=⟨.type q9,.none,.fields ⟨[.ref a]⟩,⟨[]⟩⟩
noncomputable def yo(a:Nat):Obj:=⟨.type q0,.none,.seq ⟨[.ref 514,.ref a]⟩ 0,⟨[]⟩⟩
noncomputable def yp(a:Nat)(b c d e f g:Str):Obj:=⟨.type q0,.none,.seq ⟨[.str z1 a,.str b (Nat.add a 1),.str c (Nat.add a 2),.str d (Nat.add a 3),.str e (Nat.add a 4),.str f (Nat.add a 5),.str g (Nat.add a 6)]⟩ 0,⟨[]⟩⟩
noncomputable def yq(a:Str)(b c:Nat)(d e:Str)(f:Nat):Obj:=⟨.type q6,.none,.cls ⟨a,[.type q2],[.ref b,.type q2],c,a,false,[d,e],[],false,.none,false⟩,⟨[.none,.none,.some (.str a f),.some (.str a (Nat.add f 8)),.some (.builtin q3),.some (.bool false)]⟩⟩
noncomputable def nH(a:Str)(b c d:Nat):Obj:=⟨.ref 110,.none,.cls ⟨a,[.type q2],[.ref b,.type q2],c,a,false,[],[],true,.none,false⟩,⟨[.none,.none,.some (.str a d),.some (.str a (Nat.add d 8)),.some (.builtin q3),.some (.bool false)]⟩⟩
def eE(P:Params):List DictEntry:=[eN P z8 166,eN P tA 167,eB P tB 168 SL.s7097527257260152453x26,eN P tC 169,eR P uw 170 6,eR P (sZ 0x5f5f736e69746c6975625f5f) 171 4,eS P CD 173 rQ 172,eN P (sZ 0x5f5f6465686361635f5f) 174,eT P tE 272 F0,eB P tF 375 F1,eB P tG 378 F2,eR P ux 391 60,eR P pG 417 77,eR P pH 460 110,eR P uy 467 119,eR P uA 474 126,eR P uB 481 133,eR P uC 488 140,eR P uD 495 147,eR P uE 502 154,eR P pS 543 187,eR P jK 580 217,eR P uF 627 253,eR P dq 657 276,eR P eK 814 392,eR P lg 902 464,eR P gt 970 514,eR P pI 1030 561,eR P pJ 1094 606,eR P pK 1137 641,eR P uG 1147 650,eR P uH 1156 657,eR P uI 1163 664,eR P pL 1183 674,eR P uJ 1258 721,eR P pT 1322 773,eR P pU 1371 810,eR P rR 1383 821,eR P rS 1391 827,eR P pM 1449 867,eR P pN 1762 1093,eR P uK 1770 1102,eR P uL 1776 1107,eR P pV 1782 1112]
noncomputable def eF:List Value:=[.int 3 0,.int 0 0,.ref 59,.int 7 0,.int 0 0,.ref 66,.int 12 0,.int 0 0,.ref 85,.int 27 0,.int 0 0,.ref 118,.int 30 0,.int 0 0,.ref 125,.int 33 0,.int 0 0,.ref 132,.int 36 0,.int 0 0,.ref 139,.int 39 0,.int 0 0,.ref 146,.int 41 0,.int 0 0,.ref 153,.int 43 0,.int 0 0,.ref 160,.int 59 0,.int 0 0,.ref 197,.int 71 0,.int 0 0,.ref 226,.int 86 0,.int 0 0,.ref 263,.int 97 0,.int 0 0,.ref 285,.int 186 0,.int 0 0,.ref 401,.int 227 0,.int 0 0,.ref 473,.int 248 0,.int 0 0,.ref 524,.int 266 0,.int 0 0,.ref 569,.int 291 0,.int 0 0,.ref 614,.int 311 0,.int 0 0,.ref 649,.int 314 0,.int 0 0,.ref 656,.int 319 0,.int 0 0,.ref 663,.int 324 0,.int 0 0,.ref 670,.int 326 0,.int 0 0,.ref 684,.int 378 0,.int 0 0,.ref 731,.int 412 0,.int 0 0,.ref 783,.int 428 0,.int 0 0,.ref 820,.int 433 0,.int 0 0,.ref 826,.int 479 0,.int 0 0,.ref 833,.int 505 0,.int 0 0,.ref 877,.int 700 0,.int 0 0,.ref 1101,.int 707 0,.int 0 0,.ref 1106,.int 714 0,.int 0 0,.ref 1111]
noncomputable def oA(P:Params)(z:Str)(t n m:Nat):Obj:=oD q1 (eS P ot 165 z t::wj (eE P) n) m
noncomputable def oB(n:Nat):Obj:=⟨.none,.none,.fields ⟨wj eF n⟩,⟨[]⟩⟩
def IB(P:Params):List (List Obj):=[[oD q1 [eS P ot 1 CA 160,eB P z8 2 "builtins.__doc__:str#opaque",eB P tA 3 "builtins.__package__:str#opaque",eB P tB 4 "builtins.__loader__:shared#opaque",eB P tC 5 SL.s11665532747177232413x24,eB P (sZ 0x5f5f7373616c635f646c6975625f5f) 6 SL.s15183661809925369436x15,eB P (sZ 0x5f5f74726f706d695f5f) 7 SL.s13915890719876406383x10,eB P (sZ 0x736261) 8 SL.s13459172003223722735x3,eB P (sZ 0x6c6c61) 9 SL.s10557405761357834076x3,eB P (sZ 0x796e61) 10 SL.s4233737765568776869x3,eB P (sZ 0x6969637361) 11 SL.s2508922471967985374x5,eB P (sZ 0x6e6962) 12 SL.s15574269061696679450x3,eB P (sZ 0x746e696f706b61657262) 13 SL.s6016482663378992977x10,eB P (sZ 0x656c62616c6c6163) 14 SL.s5596568736180474577x8,eB P (sZ 0x726863) 15 SL.s2839554839881490554x3,eB P (sZ 0x656c69706d6f63) 16 SL.s725004073602090463x7,eB P (sZ 0x727474616c6564) 17 SL.s9436932552931045734x7,eB P (sZ 0x726964) 18 SL.s2754603736356183583x3,eB P (sZ 0x646f6d766964) 19 SL.s15185746759980889043x6,eB P (sZ 0x6c617665) 20 SL.s8192189862530294059x4,eB P (sZ 0x63657865) 21 SL.s7038307821325472102x4,eB P (sZ 0x74616d726f66) 22 SL.s5662562618415449548x6,eB P (sZ 0x72747461746567) 23 SL.s15281542589158584767x7,eB P (sZ 0x736c61626f6c67) 24 SL.s17651547275483570877x7,eB P (sZ 0x72747461736168) 25 SL.s4036449017235975746x7,eB P (sZ 0x68736168) 26 SL.s8879979712987360175x4,eB P (sZ 0x786568) 27 SL.s1801250619170735830x3,eB P (sZ 0x6469) 28 SL.s17659931425627118568x2,eB P (sZ 0x7475706e69) 29 SL.s6063217899685152688x5,eB P (sZ 0x65636e6174736e697369) 30 SL.s8008927332132565319x10,eB P (sZ 0x7373616c636275737369) 31 SL.s3544116645089599534x10,eB P (sZ 0x72657469) 32 SL.s13761710972054866084x4,eB P (sZ 0x7265746961) 33 SL.s12896375587409280029x5,eB P (sZ 0x6e656c) 34 SL.s13014049009108672802x3,eB P (sZ 0x736c61636f6c) 35 SL.s13935586738268321596x6,eB P (sZ 0x78616d) 36 SL.s8200498257699607233x3,eB P (sZ 0x6e696d) 37 SL.s14114244577727609259x3,eB P (sZ 0x7478656e) 38 SL.s1499430450269397089x4,eB P (sZ 0x7478656e61) 39 SL.s8755793994789770505x5,eB P (sZ 0x74636f) 40 SL.s15725212667919936108x3,eB P (sZ 0x64726f) 41 SL.s15791221867095933363x3,eB P (sZ 0x776f70) 42 SL.s81309575031448614x3,eB P (sZ 0x746e697270) 43 SL.s8069831620301644142x5,eB P (sZ 0x72706572) 44 SL.s10061844253413749634x4,eB P (sZ 0x646e756f72) 45 SL.s9496514870978017513x5,eB P (sZ 0x72747461746573) 46 SL.s8899691144933366716x7,eB P (sZ 0x646574726f73) 47 SL.s15201008993051130160x6,eB P (sZ 0x6d7573) 48 SL.s741896355592496720x3,eB P (sZ 0x73726176) 49 SL.s17925004256654032244x4,eN P (sZ 0x656e6f4e) 50,en P (sZ 0x73697370696c6c45) 51 (.ellipsis),en P (sZ 0x6465746e656d656c706d49746f4e) 52 (.notImplemented),eO P (sZ 0x65736c6146) 53 false,eO P (sZ 0x65757254) 54 true,eT P (sZ 0x6c6f6f62) 55 SL.s11695548795398191787x4,eT P (sZ 0x7765697679726f6d656d) 56 SL.s4156966113859768872x10,eT P (sZ 0x796172726165747962) 57 SL.s9501651726347032510x9,eT P (sZ 0x7365747962) 58 SL.s15722918466584999320x5,eT P (sZ 0x646f6874656d7373616c63) 59 q9,eT P (sZ 0x78656c706d6f63) 60 SL.s15721156781594690315x7,eT P (sZ 0x74636964) 61 q1,eT P (sZ 0x65746172656d756e65) 62 SL.s14340494229221121180x9,eT P (sZ 0x7265746c6966) 63 SL.s13429844117177748173x6,eT P (sZ 0x74616f6c66) 64 SL.s16463266125957815391x5,eT P (sZ 0x7465736e657a6f7266) 65 SL.s4922535414793169389x9,eT P (sZ 0x79747265706f7270) 66 SL.s8101838861749082086x8,eT P (sZ 0x746e69) 67 SL.s7066276694103001551x3,eT P (sZ 0x7473696c) 68 q5,eT P (sZ 0x70616d) 69 SL.s462964344163437139x3,eT P CB 70 q2,eT P (sZ 0x65676e6172) 71 SL.s1438033511350832697x5,eT P (sZ 0x6465737265766572) 72 SL.s14365286008749172514x8,eT P (sZ 0x746573) 73 SL.s3642769012341782148x3,eT P (sZ 0x6563696c73) 74 SL.s4674234679698826739x5,eT P (sZ 0x646f6874656d636974617473) 75 SL.s16656946322747308186x12,eT P (sZ 0x727473) 76 SL.s10796804682411823810x3,eT P (sZ 0x7265707573) 77 FZ,eT P (sZ 0x656c707574) 78 q0,eT P (sZ 0x65707974) 79 q6,eT P (sZ 0x70697a) 80 SL.s14339709457334898076x3,eO P (sZ 0x5f5f67756265645f5f) 81 true,eT P (sZ 0x6e6f6974706563784565736142) 82 SL.s4278001404047624695x13,eT P (sZ 0x70756f72476e6f6974706563784565736142) 83 SL.s6585700554429387442x18,eT P (sZ 0x6e6f69747065637845) 84 SL.s5946037652744460706x9,eT P (sZ 0x74697845726f746172656e6547) 85 SL.s7410770068591931388x13,eT P (sZ 0x747075727265746e496472616f6279654b) 86 SL.s11817881795495490833x17,eT P (sZ 0x746978456d6574737953) 87 SL.s15679963881808890155x10,eT P (sZ 0x726f727245636974656d6874697241) 88 SL.s3871700062485845797x15,eT P (sZ 0x726f7272456e6f69747265737341) 89 SL.s7689518266570723881x14,eT P (sZ 0x726f727245657475626972747441) 90 SL.s9001593270443806431x14,eT P (sZ 0x726f727245726566667542) 91 SL.s6882542574934516792x11,eT P (sZ 0x726f727245464f45) 92 SL.s14403400214490484960x8,eT P (sZ 0x726f72724574726f706d49) 93 SL.s14457978657717015782x11,eT P (sZ 0x726f72724570756b6f6f4c) 94 SL.s1753610191782819921x11,eT P (sZ 0x726f72724579726f6d654d) 95 SL.s14119380538032626715x11,eT P (sZ 0x726f727245656d614e) 96 SL.s11437920000406562045x9,eT P (sZ 0x726f727245534f) 97 DB,eT P (sZ 0x726f72724565636e657265666552) 98 SL.s14816307405966870543x14,eT P (sZ 0x726f727245656d69746e7552) 99 SL.s8682627914449686677x12,eT P (sZ 0x6e6f69746172657449636e797341706f7453) 100 SL.s4428170145600203450x18,eT P (sZ 0x6e6f69746172657449706f7453) 101 SL.s5991306692159431302x13,eT P (sZ 0x726f7272457861746e7953) 102 SL.s16067994140765818257x11,eT P (sZ 0x726f7272456d6574737953) 103 SL.s2327743974964600596x11,eT P (sZ 0x726f72724565707954) 104 SL.s2804747833354056582x9,eT P (sZ 0x726f72724565756c6156) 105 SL.s6070975301684473832x10,eT P (sZ 0x676e696e726157) 106 SL.s14270485950484850486x7,eT P (sZ 0x726f727245746e696f50676e6974616f6c46) 107 SL.s12041534306414923332x18,eT P (sZ 0x726f727245776f6c667265764f) 108 SL.s2531307568338490285x13,eT P (sZ 0x726f7272456e6f6973697669446f72655a) 109 SL.s631175304937289666x17,eT P (sZ 0x676e696e7261577365747942) 110 SL.s5144983644357021410x12,eT P (sZ 0x676e696e7261576e6f697461636572706544) 111 SL.s18039099521571816885x18,eT P (sZ 0x676e696e726157676e69646f636e45) 112 SL.s6011586214260557989x15,eT P (sZ 0x676e696e726157657275747546) 113 SL.s5430567037509283100x13,eT P (sZ 0x676e696e72615774726f706d49) 114 SL.s8117915138073963741x13,eT P (sZ 0x676e696e7261576e6f697461636572706544676e69646e6550) 115 SL.s3423317712779056401x25,eT P (sZ 0x676e696e726157656372756f736552) 116 SL.s2007317383269046180x15,eT P (sZ 0x676e696e726157656d69746e7552) 117 SL.s17481586968713580700x14,eT P (sZ 0x676e696e7261577861746e7953) 118 SL.s2450899226349176912x13,eT P (sZ 0x676e696e72615765646f63696e55) 119 SL.s16626165730633575011x14,eT P (sZ 0x676e696e72615772657355) 120 SL.s14288496050688921416x11,eT P (sZ 0x726f7272454f49676e696b636f6c42) 121 SL.s5735081916595925998x15,eT P (sZ 0x726f727245737365636f7250646c696843) 122 SL.s3865607918536308442x17,eT P (sZ 0x726f7272456e6f697463656e6e6f43) 123 SL.s13337502604062700212x15,eT P (sZ 0x726f727245737473697845656c6946) 124 SL.s13114017843053701147x15,eT P (sZ 0x726f727245646e756f46746f4e656c6946) 125 SL.s17467278006356818441x17,eT P (sZ 0x726f7272456465747075727265746e49) 126 SL.s17722149559621369488x16,eT P (sZ 0x726f72724579726f746365726944417349) 127 SL.s7855274175708717672x17,eT P (sZ 0x726f72724579726f74636572694441746f4e) 128 SL.s13351283678309829046x18,eT P (sZ 0x726f7272456e6f697373696d726550) 129 SL.s6668348653404991179x15,eT P (sZ 0x726f72724570756b6f6f4c737365636f7250) 130 SL.s12913350958174193794x18,eT P (sZ 0x726f72724574756f656d6954) 131 SL.s16115879512475548326x12,eT P (sZ 0x726f7272456e6f697461746e65646e49) 132 SL.s15920661018069861047x16,eT P (sZ 0x726f7272457475706e496574656c706d6f636e495f) 133 SL.s10779130036587390575x21,eT P (sZ 0x726f7272457865646e49) 134 SL.s7801419657504700863x10,eT P (sZ 0x726f72724579654b) 135 SL.s1688129525768580628x8,eT P (sZ 0x726f727245646e756f46746f4e656c75646f4d) 136 SL.s1031832959479892071x19,eT P (sZ 0x726f7272456465746e656d656c706d49746f4e) 137 SL.s8991790508128307865x19,eT P (sZ 0x726f7272456e6f6974617a696c616e69466e6f68747950) 138 SL.s14539662485746970245x23,eT P (sZ 0x726f7272456e6f69737275636552) 139 SL.s11643622729373238714x14,eT P (sZ 0x726f7272456c61636f4c646e756f626e55) 140 SL.s3386828779285465597x17,eT P (sZ 0x726f72724565646f63696e55) 141 SL.s13042696260734638735x12,eT P (sZ 0x726f727245657069506e656b6f7242) 142 SL.s18239426817015966623x15,eT P (sZ 0x726f727245646574726f62416e6f697463656e6e6f43) 143 SL.s1270395311379034370x22,eT P (sZ 0x726f727245646573756665526e6f697463656e6e6f43) 144 SL.s10696252587037064777x22,eT P (sZ 0x726f72724574657365526e6f697463656e6e6f43) 145 SL.s7852717498200857586x20,eT P (sZ 0x726f727245626154) 146 SL.s6377248116197321094x8,eT P (sZ 0x726f72724565646f63654465646f63696e55) 147 SL.s3834378056692298002x18,eT P (sZ 0x726f72724565646f636e4565646f63696e55) 148 SL.s17586630440231065808x18,eT P (sZ 0x726f7272456574616c736e61725465646f63696e55) 149 SL.s15234114252648025395x21,eT P (sZ 0x70756f72476e6f69747065637845) 150 SL.s8496462677383758984x14,eT P (sZ 0x726f727245746e656d6e6f7269766e45) 151 DB,eT P (sZ 0x726f7272454f49) 152 DB,eB P (sZ 0x6e65706f) 153 SL.s16789243406116112673x4,eB P (sZ 0x74697571) 154 SL.s14400166428656793546x20,eB P (sZ 0x74697865) 155 SL.s5857708277339239366x20,eB P (sZ 0x746867697279706f63) 156 "builtins.copyright#opaque",eB P (sZ 0x73746964657263) 157 "builtins.credits#opaque",eB P (sZ 0x65736e6563696c) 158 "builtins.license#opaque",eB P (sZ 0x706c6568) 159 SL.s7804999707787243718x20] 159,
oD q1 [eR P CA 162 4,eR P u6 163 5,eR P tD 246 13,eR P wm 349 31] 4,
oE [eO P (sZ 0x736e6f697463656c6c6f635f2e646564616f6c2e74726f706d69) 185 true,eR P (sZ 0x726574726f706d496e69746c6975422e62696c74726f706d695f6e657a6f72665f2e7373616c63) 187 15,eR P (sZ 0x74726f706d692e64656863746177) 208 19,eR P (sZ 0x63657053656c75646f4d2e62696c74726f706d695f6e657a6f72665f2e7373616c63) 218 23,eI P (sZ 0x68636f70652d64656b6f6f622e73656c75646f6d2e737973) 247 4 0,eO P (sZ 0x736e6f697463656c6c6f635f2e6465646e616c2e73656c75646f6d2e737973) 248 true,eO P (sZ 0x736e6f697463656c6c6f635f2e6469616c2d726574616c2e74726f706d69) 263 true,eR P (sZ 0x7972617262696c2e64656863746177) 265 28,eS P (sZ 0x737463656a626f2d7972617262696c2e64656863746177) 0 (sZ 0x1f0d) 0,eS P (sZ 0x736e6f697463656c6c6f635f2e706565642d7972617262696c2e64656863746177) 266 (sY [4,0,0,12,4,0,0,12,4,0,0,3,4,0,0,12,8,4,100,105,99,116,2]) 0,eO P (sZ 0x71706165685f2e646564616f6c2e74726f706d69) 278 true,eR P (sZ 0x736369736142726564616f4c5f2e6c616e72657478655f62696c74726f706d695f6e657a6f72665f2e7373616c63) 283 34,eR P (sZ 0x726564616f4c656c69462e6c616e72657478655f62696c74726f706d695f6e657a6f72665f2e7373616c63) 299 39,eR P (sZ 0x726564616f4c656c69466e6f69736e657478452e6c616e72657478655f62696c74726f706d695f6e657a6f72665f2e7373616c63) 320 44,eO P (sZ 0x71706165685f2e6469616c2d726574616c2e74726f706d69) 368 true] 15,
oA P ty 1763 44 45,
tT 0,
tT 3,
oD q1 [] 0,
ab q0,
az,
gv CE 176 1 7 175 179,
dX 9 3 u6 164],
[cN q0 tE 182 0,
oD q1 [eS P ot 250 tD 249,eB P z8 251 "off-the-table:_collections.__doc__:shared#opaque",eS P tA 253 rT 252,eB P tB 254 "off-the-table:_collections.__loader__:shared#opaque",eB P tC 255 "off-the-table:_collections.__spec__:shared#opaque",eB P rR 256 SL.s5957113450721151568x28,eT P tE 257 F0,eT P (sZ 0x74636964746c7561666564) 258 SL.s9278979716766391425x23,eB P (sZ 0x726f7461726574695f65757165645f) 259 "off-the-table:_collections._deque_iterator:shared#opaque",eB P (sZ 0x726f7461726574695f657372657665725f65757165645f) 260 "off-the-table:_collections._deque_reverse_iterator:shared#opaque",eT P (sZ 0x726574746567656c7075745f) 261 SL.s13209474081997913071x24,eT P (sZ 0x746369446465726564724f) 262 SL.s8302156878143849030x23] 12,
tT 12,
oD q1 [eS P z3 191 CF 188,eI P z4 192 971 189,eB P z8 193 "_frozen_importlib.BuiltinImporter.__doc__:str#opaque",eS P (sZ 0x4e494749524f5f) 194 CG 190,eB P (sZ 0x636570735f646e6966) 195 "_frozen_importlib.BuiltinImporter.find_spec#opaque",eB P wn 196 "_frozen_importlib.BuiltinImporter.create_module#opaque",eB P wo 197 "_frozen_importlib.BuiltinImporter.exec_module#opaque",eB P CI 198 "_frozen_importlib.BuiltinImporter.get_code#opaque",eB P CJ 199 "_frozen_importlib.BuiltinImporter.get_source#opaque",eB P wq 200 "_frozen_importlib.BuiltinImporter.is_package#opaque",eB P wr 201 "_frozen_importlib.BuiltinImporter.load_module#opaque",eR P z5 202 16,eR P rU 204 17,eR P rV 206 18] 14,
⟨.type q6,.none,.cls ⟨CK,[.type q2],[.ref 15,.type q2],14,CK,true,[],[],false,.none,false⟩,⟨[]⟩⟩,
ab q0,
nE 203 15,
nF 205 15,
⟨.none,.none,.seq ⟨[.int 14 0,.str (sY [6,191,10,95,95,109,111,100,117,108,101,95,95,6,188,17,95,102,114,111,122,101,110,95,105,109,112,111,114,116,108,105,98,6,192,15,95,95,102,105,114,115,116,108,105,110,101,110,111,95,95,4,189,0,971,6,193,7,95,95,100,111,99,95,95,9,52,95,102,114,111,122,101,110,95,105,109,112,111,114,116,108,105,98,46,66,117,105,108,116,105,110,73,109,112,111,114,116,101,114,46,95,95,100,111,99,95,95,58,115,116,114,35,111,112,97,113,117,101,6,194,7,95,79,82,73,71,73,78,6,190,8,98,117,105,108,116,45,105,110,6,195,9,102,105,110,100,95,115,112,101,99,9,50,95,102,114,111,122,101,110,95,105,109,112,111,114,116,108,105,98,46,66,117,105,108,116,105,110,73,109,112,111,114,116,101,114,46,102,105,110,100,95,115,112,101,99,35,111,112,97,113,117,101,6,196,13,99,114,101,97,116,101,95,109,111,100,117,108,101,9,54,95,102,114,111,122,101,110,95,105,109,112,111,114,116,108,105,98,46,66,117,105,108,116,105,110,73,109,112,111,114,116,101,114,46,99,114,101,97,116,101,95,109,111,100,117,108,101,35,111,112,97,113,117,101,6,197,11,101,120,101,99,95,109,111,100,117,108,101,9,52,95,102,114,111,122,101,110,95,105,109,112,111,114,116,108,105,98,46,66,117,105,108,116,105,110,73,109,112,111,114,116,101,114,46,101,120,101,99,95,109,111,100,117,108,101,35,111,112,97,113,117,101,6,198,8,103,101,116,95,99,111,100,101,9,49,95,102,114,111,122,101,110,95,105,109,112,111,114,116,108,105,98,46,66,117,105,108,116,105,110,73,109,112,111,114,116,101,114,46,103,101,116,95,99,111,100,101,35,111,112,97,113,117,101,6,199,10,103,101,116,95,115,111,117,114,99,101,9,51,95,102,114,111,122,101,110,95,105,109,112,111,114,116,108,105,98,46,66,117,105,108,116,105,110,73,109,112,111,114,116,101,114,46,103,101,116,95,115,111,117,114,99,101,35,111,112,97,113,117,101,6,200,10,105,115,95,112,97,99,107,97,103,101,9,51,95,102,114,111,122,101,110,95,105,109,112,111,114,116,108,105,98,46,66,117,105,108,116,105,110,73,109,112,111,114,116,101,114,46,105,115,95,112,97,99,107,97,103,101,35,111,112,97,113,117,101,6,201,11,108,111,97,100,95,109,111,100,117,108,101,9,52,95,102,114,111,122,101,110,95,105,109,112,111,114,116,108,105,98,46,66,117,105,108,116,105,110,73,109,112,111,114,116,101,114,46,108,111,97,100,95,109,111,100,117,108,101,35,111,112,97,113,117,101,6,202,21,95,95,115,116,97,116,105,99,95,97,116,116,114,105,98,117,116,101,115,95,95,4,0,0,16,6,204,8,95,95,100,105,99,116,95,95,4,0,0,17,6,206,11,95,95,119,101,97,107,114,101,102,95,95,4,0,0,18]) 0,.bool true,.bool true,.str rT 207,.int 22 0,.str (sY [6,229,10,95,95,109,111,100,117,108,101,95,95,6,219,17,95,102,114,111,122,101,110,95,105,109,112,111,114,116,108,105,98,6,230,15,95,95,102,105,114,115,116,108,105,110,101,110,111,95,95,4,220,0,562,6,231,7,95,95,100,111,99,95,95,9,47,95,102,114,111,122,101,110,95,105,109,112,111,114,116,108,105,98,46,77,111,100,117,108,101,83,112,101,99,46,95,95,100,111,99,95,95,58,115,116,114,35,111,112,97,113,117,101,6,232,8,95,95,105,110,105,116,95,95,9,44,95,102,114,111,122,101,110,95,105,109,112,111,114,116,108,105,98,46,77,111,100,117,108,101,83,112,101,99,46,95,95,105,110,105,116,95,95,35,111,112,97,113,117,101,6,233,8,95,95,114,101,112,114,95,95,9,44,95,102,114,111,122,101,110,95,105,109,112,111,114,116,108,105,98,46,77,111,100,117,108,101,83,112,101,99,46,95,95,114,101,112,114,95,95,35,111,112,97,113,117,101,6,234,6,95,95,101,113,95,95,9,42,95,102,114,111,122,101,110,95,105,109,112,111,114,116,108,105,98,46,77,111,100,117,108,101,83,112,101,99,46,95,95,101,113,95,95,35,111,112,97,113,117,101,6,235,6,99,97,99,104,101,100,9,42,95,102,114,111,122,101,110,95,105,109,112,111,114,116,108,105,98,46,77,111,100,117,108,101,83,112,101,99,46,99,97,99,104,101,100,35,111,112,97,113,117,101,6,236,6,112,97,114,101,110,116,9,42,95,102,114,111,122,101,110,95,105,109,112,111,114,116,108,105,98,46,77,111,100,117,108,101,83,112,101,99,46,112,97,114,101,110,116,35,111,112,97,113,117,101,6,237,12,104,97,115,95,108,111,99,97,116,105,111,110,9,48,95,102,114,111,122,101,110,95,105,109,112,111,114,116,108,105,98,46,77,111,100,117,108,101,83,112,101,99,46,104,97,115,95,108,111,99,97,116,105,111,110,35,111,112,97,113,117,101,6,238,21,95,95,115,116,97,116,105,99,95,97,116,116,114,105,98,117,116,101,115,95,95,4,0,0,24,6,240,8,95,95,100,105,99,116,95,95,4,0,0,25,6,242,11,95,95,119,101,97,107,114,101,102,95,95,4,0,0,26,6,243,8,95,95,104,97,115,104,95,95,0]) 0,.bool true,.bool true,.str rT 244,.int 33 0,.str (sY [6,286,10,95,95,109,111,100,117,108,101,95,95,6,284,26,95,102,114,111,122,101,110,95,105,109,112,111,114,116,108,105,98,95,101,120,116,101,114,110,97,108,6,287,15,95,95,102,105,114,115,116,108,105,110,101,110,111,95,95,4,285,0,1001,6,288,7,95,95,100,111,99,95,95,9,59,95,102,114,111,122,101,110,95,105,109,112,111,114,116,108,105,98,95,101,120,116,101,114,110,97,108,46,95,76,111,97,100,101,114,66,97,115,105,99,115,46,95,95,100,111,99,95,95,58,115,116,114,35,111,112,97,113,117,101,6,289,10,105,115,95,112,97,99,107,97,103,101,9,58,95,102,114,111,122,101,110,95,105,109,112,111,114,116,108,105,98,95,101,120,116,101,114,110,97,108,46,95,76,111,97,100,101,114,66,97,115,105,99,115,46,105,115,95,112,97,99,107,97,103,101,35,111,112,97,113,117,101,6,290,13,99,114,101,97,116,101,95,109,111,100,117,108,101,9,61,95,102,114,111,122,101,110,95,105,109,112,111,114,116,108,105,98,95,101,120,116,101,114,110,97,108,46,95,76,111,97,100,101,114,66,97,115,105,99,115,46,99,114,101,97,116,101,95,109,111,100,117,108,101,35,111,112,97,113,117,101,6,291,11,101,120,101,99,95,109,111,100,117,108,101,9,59,95,102,114,111,122,101,110,95,105,109,112,111,114,116,108,105,98,95,101,120,116,101,114,110,97,108,46,95,76,111,97,100,101,114,66,97,115,105,99,115,46,101,120,101,99,95,109,111,100,117,108,101,35,111,112,97,113,117,101,6,292,11,108,111,97,100,95,109,111,100,117,108,101,9,59,95,102,114,111,122,101,110,95,105,109,112,111,114,116,108,105,98,95,101,120,116,101,114,110,97,108,46,95,76,111,97,100,101,114,66,97,115,105,99,115,46,108,111,97,100,95,109,111,100,117,108,101,35,111,112,97,113,117,101,6,293,21,95,95,115,116,97,116,105,99,95,97,116,116,114,105,98,117,116,101,115,95,95,4,0,0,35,6,295,8,95,95,100,105,99,116,95,95,4,0,0,36,6,297,11,95,95,119,101,97,107,114,101,102,95,95,4,0,0,37]) 0,.bool true,.bool true,.str rT 298,.int 38 0,.str (sY [6,304,10,95,95,109,111,100,117,108,101,95,95,6,300,26,95,102,114,111,122,101,110,95,105,109,112,111,114,116,108,105,98,95,101,120,116,101,114,110,97,108,6,305,15,95,95,102,105,114,115,116,108,105,110,101,110,111,95,95,4,301,0,1176,6,306,7,95,95,100,111,99,95,95,9,56,95,102,114,111,122,101,110,95,105,109,112,111,114,116,108,105,98,95,101,120,116,101,114,110,97,108,46,70,105,108,101,76,111,97,100,101,114,46,95,95,100,111,99,95,95,58,115,116,114,35,111,112,97,113,117,101,6,307,8,95,95,105,110,105,116,95,95,9,53,95,102,114,111,122,101,110,95,105,109,112,111,114,116,108,105,98,95,101,120,116,101,114,110,97,108,46,70,105,108,101,76,111,97,100,101,114,46,95,95,105,110,105,116,95,95,35,111,112,97,113,117,101,6,308,6,95,95,101,113,95,95,9,51,95,102,114,111,122,101,110,95,105,109,112,111,114,116,108,105,98,95,101,120,116,101,114,110,97,108,46,70,105,108,101,76,111,97,100,101,114,46,95,95,101,113,95,95,35,111,112,97,113,117,101,6,309,8,95,95,104,97,115,104,95,95,9,53,95,102,114,111,122,101,110,95,105,109,112,111,114,116,108,105,98,95,101,120,116,101,114,110,97,108,46,70,105,108,101,76,111,97,100,101,114,46,95,95,104,97,115,104,95,95,35,111,112,97,113,117,101,6,310,11,108,111,97,100,95,109,111,100,117,108,101,9,56,95,102,114,111,122,101,110,95,105,109,112,111,114,116,108,105,98,95,101,120,116,101,114,110,97,108,46,70,105,108,101,76,111,97,100,101,114,46,108,111,97,100,95,109,111,100,117,108,101,35,111,112,97,113,117,101,6,311,12,103,101,116,95,102,105,108,101,110,97,109,101,9,57,95,102,114,111,122,101,110,95,105,109,112,111,114,116,108,105,98,95,101,120,116,101,114,110,97,108,46,70,105,108,101,76,111,97,100,101,114,46,103,101,116,95,102,105,108,101,110,97,109,101,35,111,112,97,113,117,101,6,312,8,103,101,116,95,100,97,116,97,9,53,95,102,114,111,122,101,110,95,105,109,112,111,114,116,108,105,98,95,101,120,116,101,114,110,97,108,46,70,105,108,101,76,111,97,100,101,114,46,103,101,116,95,100,97,116,97,35,111,112,97,113,117,101,6,313,19,103,101,116,95,114,101,115,111,117,114,99,101,95,114,101,97,100,101,114,9,64,95,102,114,111,122,101,110,95,105,109,112,111,114,116,108,105,98,95,101,120,116,101,114,110,97,108,46,70,105,108,101,76,111,97,100,101,114,46,103,101,116,95,114,101,115,111,117,114,99,101,95,114,101,97,100,101,114,35,111,112,97,113,117,101,6,314,21,95,95,115,116,97,116,105,99,95,97,116,116,114,105,98,117,116,101,115,95,95,4,0,0,40,6,316,8,95,95,100,105,99,116,95,95,4,0,0,41,6,318,11,95,95,119,101,97,107,114,101,102,95,95,4,0,0,42]) 0,.bool true,.bool true,.str rT 319,.int 43 0,.str (sY [6,325,10,95,95,109,111,100,117,108,101,95,95,6,321,26,95,102,114,111,122,101,110,95,105,109,112,111,114,116,108,105,98,95,101,120,116,101,114,110,97,108,6,326,15,95,95,102,105,114,115,116,108,105,110,101,110,111,95,95,4,322,0,1296,6,327,7,95,95,100,111,99,95,95,9,65,95,102,114,111,122,101,110,95,105,109,112,111,114,116,108,105,98,95,101,120,116,101,114,110,97,108,46,69,120,116,101,110,115,105,111,110,70,105,108,101,76,111,97,100,101,114,46,95,95,100,111,99,95,95,58,115,116,114,35,111,112,97,113,117,101,6,328,8,95,95,105,110,105,116,95,95,9,62,95,102,114,111,122,101,110,95,105,109,112,111,114,116,108,105,98,95,101,120,116,101,114,110,97,108,46,69,120,116,101,110,115,105,111,110,70,105,108,101,76,111,97,100,101,114,46,95,95,105,110,105,116,95,95,35,111,112,97,113,117,101,6,329,6,95,95,101,113,95,95,9,60,95,102,114,111,122,101,110,95,105,109,112,111,114,116,108,105,98,95,101,120,116,101,114,110,97,108,46,69,120,116,101,110,115,105,111,110,70,105,108,101,76,111,97,100,101,114,46,95,95,101,113,95,95,35,111,112,97,113,117,101,6,330,8,95,95,104,97,115,104,95,95,9,62,95,102,114,111,122,101,110,95,105,109,112,111,114,116,108,105,98,95,101,120,116,101,114,110,97,108,46,69,120,116,101,110,115,105,111,110,70,105,108,101,76,111,97,100,101,114,46,95,95,104,97,115,104,95,95,35,111,112,97,113,117,101,6,331,13,99,114,101,97,116,101,95,109,111,100,117,108,101,9,67,95,102,114,111,122,101,110,95,105,109,112,111,114,116,108,105,98,95,101,120,116,101,114,110,97,108,46,69,120,116,101,110,115,105,111,110,70,105,108,101,76,111,97,100,101,114,46,99,114,101,97,116,101,95,109,111,100,117,108,101,35,111,112,97,113,117,101,6,332,11,101,120,101,99,95,109,111,100,117,108,101,9,65,95,102,114,111,122,101,110,95,105,109,112,111,114,116,108,105,98,95,101,120,116,101,114,110,97,108,46,69,120,116,101,110,115,105,111,110,70,105,108,101,76,111,97,100,101,114,46,101,120,101,99,95,109,111,100,117,108,101,35,111,112,97,113,117,101,6,333,10,105,115,95,112,97,99,107,97,103,101,9,64,95,102,114,111,122,101,110,95,105,109,112,111,114,116,108,105,98,95,101,120,116,101,114,110,97,108,46,69,120,116,101,110,115,105,111,110,70,105,108,101,76,111,97,100,101,114,46,105,115,95,112,97,99,107,97,103,101,35,111,112,97,113,117,101,6,334,8,103,101,116,95,99,111,100,101,9,62,95,102,114,111,122,101,110,95,105,109,112,111,114,116,108,105,98,95,101,120,116,101,114,110,97,108,46,69,120,116,101,110,115,105,111,110,70,105,108,101,76,111,97,100,101,114,46,103,101,116,95,99,111,100,101,35,111,112,97,113,117,101,6,335,10,103,101,116,95,115,111,117,114,99,101,9,64,95,102,114,111,122,101,110,95,105,109,112,111,114,116,108,105,98,95,101,120,116,101,114,110,97,108,46,69,120,116,101,110,115,105,111,110,70,105,108,101,76,111,97,100,101,114,46,103,101,116,95,115,111,117,114,99,101,35,111,112,97,113,117,101,6,336,12,103,101,116,95,102,105,108,101,110,97,109,101,9,66,95,102,114,111,122,101,110,95,105,109,112,111,114,116,108,105,98,95,101,120,116,101,114,110,97,108,46,69,120,116,101,110,115,105,111,110,70,105,108,101,76,111,97,100,101,114,46,103,101,116,95,102,105,108,101,110,97,109,101,35,111,112,97,113,117,101,6,337,21,95,95,115,116,97,116,105,99,95,97,116,116,114,105,98,117,116,101,115,95,95,4,0,0,45]) 0,.bool true,.bool true,.str rT 338]⟩ 4,⟨[]⟩⟩,
ab q5,
oD q1 [eS P rW 210 tD 209,eR P ws 211 15,eS P wt 212 CG 186,eN P wu 213,eN P wv 214,eR P ww 215 20,eO P wx 216 false,eN P wy 217,eO P CL 245 false] 9],
[oD q1 [eS P z3 229 CF 219,eI P z4 230 562 220,eB P z8 231 "_frozen_importlib.ModuleSpec.__doc__:str#opaque",eB P z9 232 "_frozen_importlib.ModuleSpec.__init__#opaque",eB P f9 233 "_frozen_importlib.ModuleSpec.__repr__#opaque",eB P gu 234 "_frozen_importlib.ModuleSpec.__eq__#opaque",eB P (sZ 0x646568636163) 235 "_frozen_importlib.ModuleSpec.cached#opaque",eB P (sZ 0x746e65726170) 236 "_frozen_importlib.ModuleSpec.parent#opaque",eB P (sZ 0x6e6f697461636f6c5f736168) 237 "_frozen_importlib.ModuleSpec.has_location#opaque",eR P z5 238 24,eR P rU 240 25,eR P rV 242 26,eN P pO 243] 13,
⟨.type q6,.none,.cls ⟨CM,[.type q2],[.ref 23,.type q2],22,CM,true,[],[],false,.none,false⟩,⟨[]⟩⟩,
⟨.type q0,.none,.seq ⟨[.str wy 221,.str wx 222,.str ww 223,.str ws 224,.str wu 225,.str rW 226,.str wt 227,.str wv 228]⟩ 0,⟨[]⟩⟩,
nE 239 23,
nF 241 23,
ym 23 21,
⟨.none,.none,.seq ⟨[.int 12 0,.str (sY [6,250,8,95,95,110,97,109,101,95,95,6,249,12,95,99,111,108,108,101,99,116,105,111,110,115,6,251,7,95,95,100,111,99,95,95,9,31,95,99,111,108,108,101,99,116,105,111,110,115,46,95,95,100,111,99,95,95,58,115,116,114,35,111,112,97,113,117,101,6,253,11,95,95,112,97,99,107,97,103,101,95,95,6,252,0,6,254,10,95,95,108,111,97,100,101,114,95,95,4,0,0,15,6,255,8,95,95,115,112,101,99,95,95,4,0,0,27,6,256,15,95,99,111,117,110,116,95,101,108,101,109,101,110,116,115,9,28,95,99,111,108,108,101,99,116,105,111,110,115,46,95,99,111,117,110,116,95,101,108,101,109,101,110,116,115,6,257,5,100,101,113,117,101,8,17,99,111,108,108,101,99,116,105,111,110,115,46,100,101,113,117,101,6,258,11,100,101,102,97,117,108,116,100,105,99,116,8,23,99,111,108,108,101,99,116,105,111,110,115,46,100,101,102,97,117,108,116,100,105,99,116,6,259,15,95,100,101,113,117,101,95,105,116,101,114,97,116,111,114,8,27,99,111,108,108,101,99,116,105,111,110,115,46,95,100,101,113,117,101,95,105,116,101,114,97,116,111,114,6,260,23,95,100,101,113,117,101,95,114,101,118,101,114,115,101,95,105,116,101,114,97,116,111,114,8,35,99,111,108,108,101,99,116,105,111,110,115,46,95,100,101,113,117,101,95,114,101,118,101,114,115,101,95,105,116,101,114,97,116,111,114,6,261,12,95,116,117,112,108,101,103,101,116,116,101,114,8,24,99,111,108,108,101,99,116,105,111,110,115,46,95,116,117,112,108,101,103,101,116,116,101,114,6,262,11,79,114,100,101,114,101,100,68,105,99,116,8,23,99,111,108,108,101,99,116,105,111,110,115,46,79,114,100,101,114,101,100,68,105,99,116]) 0,.bool true,.bool false,.str tD 264,.int 30 0,.str (sY [6,352,8,95,95,110,97,109,101,95,95,6,351,6,95,104,101,97,112,113,6,353,7,95,95,100,111,99,95,95,9,25,95,104,101,97,112,113,46,95,95,100,111,99,95,95,58,115,116,114,35,111,112,97,113,117,101,6,355,11,95,95,112,97,99,107,97,103,101,95,95,6,354,0,6,356,10,95,95,108,111,97,100,101,114,95,95,4,0,0,46,6,357,8,95,95,115,112,101,99,95,95,4,0,0,49,6,358,8,104,101,97,112,112,117,115,104,9,15,95,104,101,97,112,113,46,104,101,97,112,112,117,115,104,6,359,11,104,101,97,112,112,117,115,104,112,111,112,9,18,95,104,101,97,112,113,46,104,101,97,112,112,117,115,104,112,111,112,6,360,7,104,101,97,112,112,111,112,9,14,95,104,101,97,112,113,46,104,101,97,112,112,111,112,6,361,11,104,101,97,112,114,101,112,108,97,99,101,9,18,95,104,101,97,112,113,46,104,101,97,112,114,101,112,108,97,99,101,6,362,7,104,101,97,112,105,102,121,9,14,95,104,101,97,112,113,46,104,101,97,112,105,102,121,6,363,12,95,104,101,97,112,112,111,112,95,109,97,120,9,19,95,104,101,97,112,113,46,95,104,101,97,112,112,111,112,95,109,97,120,6,364,12,95,104,101,97,112,105,102,121,95,109,97,120,9,19,95,104,101,97,112,113,46,95,104,101,97,112,105,102,121,95,109,97,120,6,365,16,95,104,101,97,112,114,101,112,108,97,99,101,95,109,97,120,9,23,95,104,101,97,112,113,46,95,104,101,97,112,114,101,112,108,97,99,101,95,109,97,120,6,366,8,95,95,102,105,108,101,95,95,6,279,125,47,110,105,120,47,115,116,111,114,101,47,119,106,49,102,53,54,113,107,121,52,112,109,106,99,55,108,48,114,54,98,54,108,55,119,104,110,110,119,55,104,112,54,45,112,121,116,104,111,110,51,45,51,46,49,51,46,49,53,47,108,105,98,47,112,121,116,104,111,110,51,46,49,51,47,108,105,98,45,100,121,110,108,111,97,100,47,95,104,101,97,112,113,46,99,112,121,116,104,111,110,45,51,49,51,45,120,56,54,95,54,52,45,108,105,110,117,120,45,103,110,117,46,115,111,6,367,9,95,95,97,98,111,117,116,95,95,9,27,95,104,101,97,112,113,46,95,95,97,98,111,117,116,95,95,58,115,116,114,35,111,112,97,113,117,101]) 0,.bool true,.bool false,.str wm 369]⟩ 1,⟨[]⟩⟩,
bp q0 tF 274 tG 0,
oD q1 [eS P ot 352 wm 351,eB P z8 353 "off-the-table:_heapq.__doc__:shared#opaque",eS P tA 355 rT 354,eB P tB 356 "off-the-table:_heapq.__loader__:shared#opaque",eB P tC 357 "off-the-table:_heapq.__spec__:shared#opaque",eB P (sZ 0x6873757070616568) 358 SL.s1401719397831815689x15,eB P (sZ 0x706f706873757070616568) 359 SL.s3253261563445288831x18,eB P (sZ 0x706f7070616568) 360 SL.s348165108972342858x14,eB P tG 361 F2,eB P tF 362 F1,eB P (sZ 0x78616d5f706f70706165685f) 363 SL.s10974238022732182726x19,eB P (sZ 0x78616d5f796669706165685f) 364 SL.s18185691447467314571x19,eB P (sZ 0x78616d5f6563616c706572706165685f) 365 SL.s11355973235755591776x23,eS P CD 366 wz 279,eB P (sZ 0x5f5f74756f62615f5f) 367 "off-the-table:_heapq.__about__:shared#opaque"] 15,
tT 30,
oD q1 [eS P rW 281 wm 280,eS P tH 282 wz 279] 2],
[oD q1 [eS P z3 286 wA 284,eI P z4 287 1001 285,eB P z8 288 "_frozen_importlib_external._LoaderBasics.__doc__:str#opaque",eB P wq 289 "_frozen_importlib_external._LoaderBasics.is_package#opaque",eB P wn 290 "_frozen_importlib_external._LoaderBasics.create_module#opaque",eB P wo 291 "_frozen_importlib_external._LoaderBasics.exec_module#opaque",eB P wr 292 "_frozen_importlib_external._LoaderBasics.load_module#opaque",eR P z5 293 35,eR P rU 295 36,eR P rV 297 37] 10,
⟨.type q6,.none,.cls ⟨CN,[.type q2],[.ref 34,.type q2],33,CN,true,[],[.ref 44],false,.none,false⟩,⟨[]⟩⟩,
ab q0,
nE 294 34,
nF 296 34,
oD q1 [eS P z3 304 wA 300,eI P z4 305 1176 301,eB P z8 306 "_frozen_importlib_external.FileLoader.__doc__:str#opaque",eB P z9 307 "_frozen_importlib_external.FileLoader.__init__#opaque",eB P gu 308 "_frozen_importlib_external.FileLoader.__eq__#opaque",eB P pO 309 "_frozen_importlib_external.FileLoader.__hash__#opaque",eB P wr 310 "_frozen_importlib_external.FileLoader.load_module#opaque",eB P CO 311 "_frozen_importlib_external.FileLoader.get_filename#opaque",eB P (sZ 0x617461645f746567) 312 "_frozen_importlib_external.FileLoader.get_data#opaque",eB P (sZ 0x7265646165725f656372756f7365725f746567) 313 "_frozen_importlib_external.FileLoader.get_resource_reader#opaque",eR P z5 314 40,eR P rU 316 41,eR P rV 318 42] 13,
⟨.type q6,.none,.cls ⟨CR,[.type q2],[.ref 39,.type q2],38,CR,true,[],[.ref 44],false,.none,false⟩,⟨[]⟩⟩,
bp q0 rW 302 tH 0,
nE 315 39,
nF 317 39,
oD q1 [eS P z3 325 wA 321,eI P z4 326 1296 322,eB P z8 327 "_frozen_importlib_external.ExtensionFileLoader.__doc__:str#opaque",eB P z9 328 "_frozen_importlib_external.ExtensionFileLoader.__init__#opaque",eB P gu 329 "_frozen_importlib_external.ExtensionFileLoader.__eq__#opaque",eB P pO 330 "_frozen_importlib_external.ExtensionFileLoader.__hash__#opaque",eB P wn 331 "_frozen_importlib_external.ExtensionFileLoader.create_module#opaque",eB P wo 332 "_frozen_importlib_external.ExtensionFileLoader.exec_module#opaque",eB P wq 333 "_frozen_importlib_external.ExtensionFileLoader.is_package#opaque",eB P CI 334 "_frozen_importlib_external.ExtensionFileLoader.get_code#opaque",eB P CJ 335 "_frozen_importlib_external.ExtensionFileLoader.get_source#opaque",eB P CO 336 "_frozen_importlib_external.ExtensionFileLoader.get_filename#opaque",eR P z5 337 45] 13],
[⟨.type q6,.none,.cls ⟨CS,[.ref 39,.ref 34],[.ref 44,.ref 39,.ref 34,.type q2],43,CS,true,[],[],false,.none,false⟩,⟨[]⟩⟩,
bp q0 rW 323 tH 0,
ym 44 32,
ab q5,
oD q1 [eS P rW 340 wm 339,eR P ws 341 46,eS P wt 342 wz 279,eN P wu 343,eN P wv 344,eR P ww 345 47,eO P wx 346 true,eN P wy 347,eO P CL 348 false] 9,
ym 23 48,
ab q0,
oB 99,
gv CE 380 1 50 379 383,
dX 52 3 u6 164,
ab q0],
[az,
cN q0 (sZ 0x6b) 388 0,
ab q0,
fQ 2 ux,
aB ux 385 ux 3 1 0 3 54 389 390,
fX 2 ux u6 164 59,
⟨.type q0,.none,.seq ⟨[.type q6]⟩ 0,⟨[]⟩⟩,
kL,
oD q1 [eS P z3 401 tI 392,eS P fP 403 pG 402,eI P z4 405 7 404,eR P nf 413 74,eR P z5 414 75] 5,
ab q0,
⟨.none,.none,.fields ⟨[.int 9 0,.int 4 0,.ref 73]⟩,⟨[]⟩⟩],
[gv pG 396 7 64 379 399,
dX 66 63 tI 392,
ab q0,
az,
bp q0 fV 409 CT 0,
ab q0,
aH 4 0 nf wB,
aB nf 406 wB 9 2 0 3 68 411 412,
aS 4 0 nf wB tI 392 73,
ab q0,
oD q1 [eS P z3 401 tI 392,eI P z4 405 7 404,eR P nf 413 74,eR P z5 414 75,eN P z8 415] 2],
[⟨.type q6,.none,.cls ⟨pG,[.type q6],[.ref 77,.type q6,.type q2],76,pG,true,[],[.ref 110],false,.none,false⟩,⟨[.some (.ref 61),.none,.some (.str pG 394),.some (.str pG 402),.some (.builtin F5),.some (.bool true)]⟩⟩,
eQ 77,
eL q4 77,
kM 77,
kL,
oD q1 [eS P z3 427 z0 418,eS P fP 429 pH 428,eI P z4 431 12 430,eR P pW 440 93,eR P pX 448 100,eR P nf 456 107,eR P z5 457 108] 7,
ab q0,
qt 14 92 20 25,
gv pH 422 12 83 379 425,
dX 85 82 z0 418,
ab q0],
[az,
gw fV 435 (sZ 0x65636e6174736e69) hU,
ab q0,
aH 6 0 pW wC,
aB pW 432 wC 14 2 0 3 87 438 439,
aS 6 0 pW wC z0 418 92,
ab q0,
az,
bp q0 fV 444 hU 0,
ab q0,
aH 6 1 pX wD],
[aB pX 441 wD 20 2 0 3 94 446 447,
aS 6 1 pX wD z0 418 99,
ab q0,
az,
bp q0 fV 452 CT 0,
ab q0,
aH 6 2 nf wE,
aB nf 449 wE 25 2 0 3 101 454 455,
aS 6 2 nf wE z0 418 106,
ab q0,
oD q1 [eS P z3 427 z0 418,eI P z4 431 12 430,eR P pW 440 93,eR P pX 448 100,eR P nf 456 107,eR P z5 457 108,eN P z8 458] 2],
[⟨.type q6,.none,.cls ⟨pH,[.ref 77],[.ref 110,.ref 77,.type q6,.type q2],109,pH,true,[],[],false,.none,false⟩,⟨[.some (.ref 80),.none,.some (.str pH 420),.some (.str pH 428),.some (.builtin F5),.some (.bool true)]⟩⟩,
eQ 110,
eL q4 110,
ab q0,
az,
cN q0 hU 464 0,
ab q0,
fQ 7 uy,
aB uy 461 uy 27 1 0 3 113 465 466,
fX 7 uy z0 418 118,
ab q0]]
def IC(P:Params):List (List Obj):=[[az,
cN q0 hU 471 0,
ab q0,
fQ 8 uA,
aB uA 468 uA 30 1 0 3 120 472 473,
fX 8 uA z0 418 125,
ab q0,
az,
cN q0 hU 478 0,
ab q0,
fQ 9 uB],
[aB uB 475 uB 33 1 0 3 127 479 480,
fX 9 uB z0 418 132,
ab q0,
az,
cN q0 hU 485 0,
ab q0,
fQ 10 uC,
aB uC 482 uC 36 1 0 3 134 486 487,
fX 10 uC z0 418 139,
ab q0,
az],
[cN q0 hU 492 0,
ab q0,
fQ 11 uD,
aB uD 489 uD 39 1 0 3 141 493 494,
fX 11 uD z0 418 146,
ab q0,
az,
cN q0 hU 499 0,
ab q0,
fQ 12 uE,
aB uE 496 uE 41 1 0 3 148 500 501],
[fX 12 uE z0 418 153,
ab q0,
eL q7 110,
oD q1 [eS P z3 510 z0 418,eS P fP 512 pS 511,eI P z4 514 43 513,eR P eb 515 162,eR P z6 522 169,eR P z2 530 176,eR P jh 538 183,eR P z5 539 184] 8,
ab q0,
qt 46 168 50 56,
gv pS 505 43 158 379 508,
dX 160 157 z0 418,
ab q0,
ab q0,
az],
[cN q0 z1 519 0,
ab q0,
aH 13 1 z6 wF,
aB z6 516 wF 46 1 0 35 163 520 521,
aS 13 1 z6 wF z0 418 168,
ab q0,
az,
bp q0 fV 526 hU 0,
ab q0,
aH 13 2 z2 wG,
aB z2 523 wG 50 2 0 3 170 528 529],
[aS 13 2 z2 wG z0 418 175,
ab q0,
az,
bp q0 fV 534 rX 0,
ab q0,
aH 13 3 jh wH,
aB jh 531 wH 56 2 0 3 177 536 537,
aS 13 3 jh wH z0 418 182,
ab q0,
ab q5,
oD q1 [eS P z3 510 z0 418,eI P z4 514 43 513,eR P eb 515 162,eR P z6 522 169,eR P z2 530 176,eR P jh 538 188,eR P z5 539 184,eN P z8 541,eR P uM 548 191] 3],
[nG pS 187 186 503,
yn 183,
eQ 187,
eL q4 187,
cN q0 z6 544 0,
ab q0,
eL q7 110,
oD q1 [eS P z3 556 z0 418,eS P fP 558 jK 557,eI P z4 560 59 559,eR P eb 561 199,eR P jJ 568 206,eR P z2 576 213,eR P z5 577 214] 7,
ab q0,
⟨.none,.none,.fields ⟨[.int 62 0,.int 4 0,.ref 205,.int 65 0,.int 4 0,.ref 212]⟩,⟨[]⟩⟩,
gv jK 551 59 195 379 554],
[dX 197 194 z0 418,
ab q0,
ab q0,
az,
cN q0 z1 565 0,
ab q0,
aH 15 1 jJ wI,
aB jJ 562 wI 62 1 0 3 200 566 567,
aS 15 1 jJ wI z0 418 205,
ab q0,
az],
[bp q0 fV 572 hU 0,
ab q0,
aH 15 2 z2 wJ,
aB z2 569 wJ 65 2 0 3 207 574 575,
aS 15 2 z2 wJ z0 418 212,
ab q0,
ab q5,
oD q1 [eS P z3 556 z0 418,eI P z4 560 59 559,eR P eb 561 199,eR P jJ 568 206,eR P z2 576 213,eR P z5 577 214,eN P z8 578,eR P uM 585 220] 3,
⟨.ref 110,.none,.cls ⟨jK,[.type q2],[.ref 217,.type q2],216,jK,false,[],[.ref 276,.ref 514],true,.none,false⟩,⟨[.none,.none,.some (.str jK 549),.some (.str jK 557),.some (.builtin q3),.some (.bool false)]⟩⟩,
eQ 217,
eL q4 217],
[cN q0 jJ 581 0,
ab q0,
eL q7 110,
oD q1 [eS P z3 593 z0 418,eS P fP 595 uF 594,eI P z4 597 71 596,eR P eb 598 228,eR P eG 606 235,eR P z2 614 242,eR P jh 622 249,eR P z5 623 250] 8,
ab q0,
qt 74 234 77 83,
gv uF 588 71 224 379 591,
dX 226 223 z0 418,
ab q0,
ab q0,
az],
[bp q0 z1 602 wK 0,
ab q0,
aH 17 1 eG wL,
aB eG 599 wL 74 2 0 3 229 604 605,
aS 17 1 eG wL z0 418 234,
ab q0,
az,
bp q0 fV 610 hU 0,
ab q0,
aH 17 2 z2 wM,
aB z2 607 wM 77 2 0 3 236 612 613]]
def ID(P:Params):List (List Obj):=[[aS 17 2 z2 wM z0 418 241,
ab q0,
az,
bp q0 fV 618 rX 0,
ab q0,
aH 17 3 jh wN,
aB jh 615 wN 83 2 0 3 243 620 621,
aS 17 3 jh wN z0 418 248,
ab q0,
ab q5,
oD q1 [eS P z3 593 z0 418,eI P z4 597 71 596,eR P eb 598 228,eR P eG 606 235,eR P z2 614 242,eR P jh 622 254,eR P z5 623 250,eN P z8 625,eR P uM 632 257] 3],
[nG uF 253 252 586,
yn 249,
eQ 253,
eL q4 253,
cN q0 eG 628 0,
⟨.type q0,.none,.seq ⟨[.ref 217,.ref 187,.ref 253]⟩ 0,⟨[]⟩⟩,
eL q7 110,
oD q1 [eS P z3 640 z0 418,eS P fP 642 dq 641,eI P z4 644 86 643,eR P eb 645 265,eR P z2 653 272,eR P z5 654 273] 6,
ab q0,
⟨.none,.none,.fields ⟨[.int 89 0,.int 4 0,.ref 271]⟩,⟨[]⟩⟩,
gv dq 635 86 261 379 638],
[dX 263 260 z0 418,
ab q0,
ab q0,
az,
bp q0 fV 649 hU 0,
ab q0,
aH 19 1 z2 wO,
aB z2 646 wO 89 2 0 3 266 651 652,
aS 19 1 z2 wO z0 418 271,
ab q0,
ab q5],
[oD q1 [eS P z3 640 z0 418,eI P z4 644 86 643,eR P eb 645 265,eR P z2 653 272,eR P z5 654 273,eN P z8 655,eR P uM 664 279] 3,
⟨.ref 110,.none,.cls ⟨dq,[.ref 217,.ref 187,.ref 253],[.ref 276,.ref 217,.ref 187,.ref 253,.type q2],275,dq,false,[],[.ref 392,.ref 464,.ref 641],true,.none,false⟩,⟨[.some (.ref 258),.none,.some (.str dq 633),.some (.str dq 641),.some (.builtin q3),.some (.bool false)]⟩⟩,
eQ 276,
eL q4 276,
gw eG 658 z6 jJ,
kM 276,
eL q7 110,
oD q1 [eS P z3 672 z0 418,eS P fP 674 eK 673,eI P z4 676 97 675,eR P eb 677 287,eR P l6 686 294,eR P l7 694 301,eR P l8 702 308,eR P l9 711 315,eR P gu 719 322,eR P gN 739 331,eR P ma 748 339,eR P wP 749 339,eR P uN 757 346,eR P mb 766 353,eR P wQ 767 353,eR P mc 776 360,eR P uO 785 367,eR P uP 793 374,eR P wR 794 374,eR P uQ 801 381,eR P z2 809 388,eR P z5 810 389] 22,
ab q0,
⟨.none,.none,.fields ⟨[.int 100 0,.int 4 0,.ref 293,.int 110 0,.int 4 0,.ref 300,.int 115 0,.int 4 0,.ref 307,.int 120 0,.int 4 0,.ref 314,.int 130 0,.int 4 0,.ref 321,.int 136 0,.int 4 0,.ref 328,.int 139 0,.int 4 0,.ref 338,.int 145 0,.int 4 0,.ref 345,.int 148 0,.int 4 0,.ref 352,.int 155 0,.int 4 0,.ref 359,.int 162 0,.int 4 0,.ref 366,.int 169 0,.int 4 0,.ref 373,.int 177 0,.int 4 0,.ref 380,.int 180 0,.int 4 0,.ref 387]⟩,⟨[]⟩⟩,
gv eK 667 97 283 379 670],
[dX 285 282 z0 418,
ab q0,
ab q0,
az,
gw z1 681 ed iS,
ab q0,
aH 21 1 l6 wS,
aB l6 678 wS 100 2 0 3 288 684 685,
aS 21 1 l6 wS z0 418 293,
ab q0,
az],
[bp q0 z1 690 ed 0,
ab q0,
aH 21 2 l7 wT,
aB l7 687 wT 110 2 0 3 295 692 693,
aS 21 2 l7 wT z0 418 300,
ab q0,
az,
bp q0 z1 698 ed 0,
ab q0,
aH 21 3 l8 wU,
aB l8 695 wU 115 2 0 3 302 700 701],
[aS 21 3 l8 wU z0 418 307,
ab q0,
az,
gw z1 706 ed iS,
ab q0,
aH 21 4 l9 wV,
aB l9 703 wV 120 2 0 3 309 709 710,
aS 21 4 l9 wV z0 418 314,
ab q0,
az,
bp q0 z1 715 ed 0],
[ab q0,
aH 21 5 gu wW,
aB gu 712 wW 130 2 0 3 316 717 718,
aS 21 5 gu wW z0 418 321,
ab q0,
az,
bp q0 fV 723 tJ 0,
ab q0,
aH 21 6 gN tK,
aB gN 720 tK 135 2 0 3 323 725 726,
tU 21 6 gN tK z0 418 332 328],
[oD q1 [eS P z3 728 z0 418,eS P ot 731 gN 730,eS P fP 734 tK 733,eN P z8 736,eR P uw 738 332] 5,
qu 330 329,
oD q1 [] 0,
ab q0,
az,
bp q0 z1 743 ed 0,
cN q0 z1 745 0,
aH 21 7 ma wX,
aB ma 740 wX 139 2 0 3 333 746 747,
aS 21 7 ma wX z0 418 338,
ab q0],
[az,
bp q0 z1 753 ed 0,
ab q0,
aH 21 9 uN wY,
aB uN 750 wY 145 2 0 3 340 755 756,
aS 21 9 uN wY z0 418 345,
ab q0,
az,
gw z1 761 ed uJ,
ab q0,
aH 21 10 mb wZ],
[aB mb 758 wZ 148 2 0 3 347 764 765,
aS 21 10 mb wZ z0 418 352,
ab q0,
az,
bp q0 z1 771 ed 0,
cN q0 ed 773 0,
aH 21 12 mc w0,
aB mc 768 w0 155 2 0 3 354 774 775,
aS 21 12 mc w0 z0 418 359,
ab q0,
az]]
def IE(P:Params):List (List Obj):=[[bp q0 z1 780 ed 0,
cN q0 z1 782 0,
aH 21 13 uO w1,
aB uO 777 w1 162 2 0 3 361 783 784,
aS 21 13 uO w1 z0 418 366,
ab q0,
az,
bp q0 z1 789 ed 0,
ab q0,
aH 21 14 uP w2,
aB uP 786 w2 169 2 0 3 368 791 792],
[aS 21 14 uP w2 z0 418 373,
ab q0,
az,
cN q0 z1 798 0,
ab q0,
aH 21 16 uQ w3,
aB uQ 795 w3 177 1 0 3 375 799 800,
aS 21 16 uQ w3 z0 418 380,
ab q0,
az,
bp q0 fV 805 hU 0],
[ab q0,
aH 21 17 z2 w4,
aB z2 802 w4 180 2 0 3 382 807 808,
aS 21 17 z2 w4 z0 418 387,
ab q0,
ab q5,
oD q1 [eS P z3 672 z0 418,eI P z4 676 97 675,eR P eb 677 287,eR P l6 686 294,eR P l7 694 301,eR P l8 702 308,eR P l9 711 315,eR P gu 719 322,eR P gN 739 331,eR P ma 748 339,eR P wP 749 339,eR P uN 757 346,eR P mb 766 353,eR P wQ 767 353,eR P mc 776 360,eR P uO 785 367,eR P uP 793 374,eR P wR 794 374,eR P uQ 801 381,eR P z2 809 388,eR P z5 810 389,eN P z8 811,eN P pO 812,eR P uM 821 395] 4,
⟨.ref 110,.none,.cls ⟨eK,[.ref 276],[.ref 392,.ref 276,.ref 217,.ref 187,.ref 253,.type q2],391,eK,false,[],[.ref 561,.ref 606],true,.none,false⟩,⟨[.some (.ref 280),.none,.some (.str eK 665),.some (.str eK 673),.some (.builtin q3),.some (.bool false)]⟩⟩,
eQ 392,
eL q4 392,
gw eG 815 z6 jJ],
[kM 276,
eL q7 110,
oD q1 [eS P z3 829 z0 418,eS P fP 831 lg 830,eI P z4 833 186 832,eR P eb 834 403,eR P rY 842 410,eR P uR 851 418,eR P eG 859 425,eR P uS 866 432,eR P pP 873 439,eR P uT 880 446,eR P gu 888 453,eN P w5 889,eR P z2 897 460,eR P z5 898 461] 14,
ab q0,
⟨.none,.none,.fields ⟨[.int 189 0,.int 4 0,.ref 409,.int 192 0,.int 4 0,.ref 417,.int 198 0,.int 4 0,.ref 424,.int 206 0,.int 4 0,.ref 431,.int 209 0,.int 4 0,.ref 438,.int 212 0,.int 4 0,.ref 445,.int 215 0,.int 4 0,.ref 452,.int 221 0,.int 4 0,.ref 459]⟩,⟨[]⟩⟩,
gv lg 824 186 399 379 827,
dX 401 398 z0 418,
ab q0,
ab q0,
az,
bp q0 z1 838 ou 0],
[ab q0,
aH 23 1 rY w6,
aB rY 835 w6 189 2 0 3 404 840 841,
aS 23 1 rY w6 z0 418 409,
md,
ab q0,
az,
gw z1 846 ou (sZ 0x746c7561666564),
ab q0,
aH 23 2 uR w7,
aB uR 843 w7 192 3 0 3 412 849 850],
[tV 23 2 uR w7 411 z0 418,
ab q0,
az,
bp q0 z1 855 ou 0,
ab q0,
aH 23 3 eG w8,
aB eG 852 w8 198 2 0 3 419 857 858,
aS 23 3 eG w8 z0 418 424,
ab q0,
az,
cN q0 z1 863 0],
[ab q0,
aH 23 4 uS w9,
aB uS 860 w9 206 1 0 3 426 864 865,
aS 23 4 uS w9 z0 418 431,
ab q0,
az,
cN q0 z1 870 0,
ab q0,
aH 23 5 pP xa,
aB pP 867 xa 209 1 0 3 433 871 872,
aS 23 5 pP xa z0 418 438],
[ab q0,
az,
cN q0 z1 877 0,
ab q0,
aH 23 6 uT xb,
aB uT 874 xb 212 1 0 3 440 878 879,
aS 23 6 uT xb z0 418 445,
ab q0,
az,
bp q0 z1 884 ed 0,
ab q0],
[aH 23 7 gu xc,
aB gu 881 xc 215 2 0 3 447 886 887,
aS 23 7 gu xc z0 418 452,
ab q0,
az,
bp q0 fV 893 hU 0,
ab q0,
aH 23 9 z2 xd,
aB z2 890 xd 221 2 0 3 454 895 896,
aS 23 9 z2 xd z0 418 459,
ab q0],
[ab q5,
oD q1 [eS P z3 829 z0 418,eI P z4 833 186 832,eR P eb 834 403,eR P rY 842 410,eR P uR 851 418,eR P eG 859 425,eR P uS 866 432,eR P pP 873 439,eR P uT 880 446,eR P gu 888 453,eN P w5 889,eR P z2 897 460,eR P z5 898 461,eN P z8 899,eN P pO 900,eR P uM 909 467] 4,
⟨.ref 110,.none,.cls ⟨lg,[.ref 276],[.ref 464,.ref 276,.ref 217,.ref 187,.ref 253,.type q2],463,lg,false,[],[],true,.none,false⟩,⟨[.some (.ref 396),.none,.some (.str lg 822),.some (.str lg 830),.some (.builtin q3),.some (.bool false)]⟩⟩,
eQ 464,
eL q4 464,
gw rY 903 z6 jJ,
kM 217,
eL q7 110,
oD q1 [eS P z3 917 z0 418,eS P fP 919 gt 918,eI P z4 921 227 920,eR P eb 923 475,eR P z9 931 482,eR P jJ 938 489,eR P f9 946 496,eR P z2 954 503,eR P jh 962 510,eR P z5 964 511] 10,
ab q0,
⟨.none,.none,.fields ⟨[.int 230 0,.int 4 0,.ref 481,.int 233 0,.int 4 0,.ref 488,.int 236 0,.int 4 0,.ref 495,.int 240 0,.int 4 0,.ref 502,.int 246 0,.int 4 0,.ref 509]⟩,⟨[]⟩⟩],
[gv gt 912 227 471 379 915,
dX 473 470 z0 418,
cN q0 lh 922 0,
ab q0,
az,
bp q0 z1 927 CU 0,
ab q0,
aH 25 1 z9 xf,
aB z9 924 xf 230 2 0 3 476 929 930,
aS 25 1 z9 xf z0 418 481,
ab q0]]
def IF(P:Params):List (List Obj):=[[az,
cN q0 z1 935 0,
ab q0,
aH 25 2 jJ xg,
aB jJ 932 xg 233 1 0 3 483 936 937,
aS 25 2 jJ xg z0 418 488,
ab q0,
az,
bp q0 z1 942 rW 0,
ab q0,
aH 25 3 f9 xh],
[aB f9 939 xh 236 1 0 3 490 944 945,
aS 25 3 f9 xh z0 418 495,
ab q0,
az,
bp q0 fV 950 hU 0,
ab q0,
aH 25 4 z2 xi,
aB z2 947 xi 240 2 0 3 497 952 953,
aS 25 4 z2 xi z0 418 502,
ab q0,
az],
[bp q0 fV 958 rX 0,
ab q0,
aH 25 5 jh xj,
aB jh 955 xj 246 2 0 3 504 960 961,
aS 25 5 jh xj z0 418 509,
cN q0 lh 963 0,
cN q5 lh 922 1,
oD q1 [eS P z3 917 z0 418,eI P z4 921 227 920,eR P eb 923 475,eR P z9 931 482,eR P jJ 938 489,eR P f9 946 496,eR P z2 954 503,eR P jh 962 515,eR P z5 964 511,eR P lh 967 516,eN P z8 968] 3,
⟨.ref 110,.none,.cls ⟨gt,[.ref 217],[.ref 514,.ref 217,.type q2],513,gt,false,[lh],[.ref 561,.ref 606,.ref 641],false,.none,false⟩,⟨[.some (.ref 468),.none,.some (.str gt 910),.some (.str gt 918),.some (.builtin q3),.some (.bool false)]⟩⟩,
yn 510,
kN lh 966 514 0],
[eQ 514,
eL q4 514,
yo 392,
eL q7 110,
oD q1 [eS P z3 978 z0 418,eS P fP 980 pI 979,eI P z4 982 248 981,eR P eb 983 526,eR P gN 1003 535,eR P eG 1011 543,eR P z6 1018 550,eR P z2 1026 557,eR P z5 1027 558] 9,
ab q0,
tW 252 532 255 542 258 549 261,
gv pI 973 248 522 379 976,
dX 524 521 z0 418,
ab q0,
ab q0],
[az,
bp q0 fV 987 tJ 0,
ab q0,
aH 26 1 gN tL,
aB gN 984 tL 251 2 0 3 527 989 990,
tU 26 1 gN tL z0 418 536 532,
oD q1 [eS P z3 992 z0 418,eS P ot 995 gN 994,eS P fP 998 tL 997,eN P z8 1000,eR P uw 1002 536] 5,
qu 534 533,
oD q1 [] 0,
ab q0,
az],
[bp q0 z1 1007 ou 0,
ab q0,
aH 26 2 eG xk,
aB eG 1004 xk 255 2 0 3 537 1009 1010,
aS 26 2 eG xk z0 418 542,
ab q0,
az,
cN q0 z1 1015 0,
ab q0,
aH 26 3 z6 xl,
aB z6 1012 xl 258 1 0 35 544 1016 1017],
[aS 26 3 z6 xl z0 418 549,
ab q0,
az,
bp q0 fV 1022 hU 0,
ab q0,
aH 26 4 z2 xm,
aB z2 1019 xm 261 2 0 3 551 1024 1025,
aS 26 4 z2 xm z0 418 556,
ab q0,
ab q5,
oD q1 [eS P z3 978 z0 418,eI P z4 982 248 981,eR P eb 983 526,eR P gN 1003 535,eR P eG 1011 543,eR P z6 1018 550,eR P z2 1026 557,eR P z5 1027 558,eN P z8 1028] 2],
[⟨.ref 110,.none,.cls ⟨pI,[.ref 514,.ref 392],[.ref 561,.ref 514,.ref 392,.ref 276,.ref 217,.ref 187,.ref 253,.type q2],560,pI,false,[lh],[],false,.none,false⟩,⟨[.some (.ref 519),.none,.some (.str pI 971),.some (.str pI 979),.some (.builtin q3),.some (.bool false)]⟩⟩,
eQ 561,
eL q4 561,
yo 392,
eL q7 110,
oD q1 [eS P z3 1038 z0 418,eS P fP 1040 pJ 1039,eI P z4 1042 266 1041,eR P eb 1043 571,eR P gN 1063 580,eR P eG 1074 588,eR P z6 1082 595,eR P z2 1090 602,eR P z5 1091 603] 9,
ab q0,
tW 270 577 273 587 282 594 286,
gv pJ 1033 266 567 379 1036,
dX 569 566 z0 418,
ab q0],
[ab q0,
az,
bp q0 fV 1047 tJ 0,
ab q0,
aH 27 1 gN tO,
aB gN 1044 tO 269 2 0 3 572 1049 1050,
tU 27 1 gN tO z0 418 581 577,
oD q1 [eS P z3 1052 z0 418,eS P ot 1055 gN 1054,eS P fP 1058 tO 1057,eN P z8 1060,eR P uw 1062 581] 5,
qu 579 578,
oD q1 [] 0,
ab q0],
[az,
tX 1067 rX ou CV xn,
ab q0,
aH 27 2 eG xo,
aB eG 1064 xo 273 2 0 3 582 1072 1073,
aS 27 2 eG xo z0 418 587,
ab q0,
az,
bp q0 z1 1078 ou 0,
ab q0,
aH 27 3 z6 xp],
[aB z6 1075 xp 282 1 0 35 589 1080 1081,
aS 27 3 z6 xp z0 418 594,
ab q0,
az,
bp q0 fV 1086 hU 0,
ab q0,
aH 27 4 z2 xq,
aB z2 1083 xq 286 2 0 3 596 1088 1089,
aS 27 4 z2 xq z0 418 601,
ab q0,
ab q5]]
def IG(P:Params):List (List Obj):=[[oD q1 [eS P z3 1038 z0 418,eI P z4 1042 266 1041,eR P eb 1043 571,eR P gN 1063 580,eR P eG 1074 588,eR P z6 1082 595,eR P z2 1090 602,eR P z5 1091 603,eN P z8 1092] 2,
⟨.ref 110,.none,.cls ⟨pJ,[.ref 514,.ref 392],[.ref 606,.ref 514,.ref 392,.ref 276,.ref 217,.ref 187,.ref 253,.type q2],605,pJ,false,[lh],[],false,.none,false⟩,⟨[.some (.ref 564),.none,.some (.str pJ 1031),.some (.str pJ 1039),.some (.builtin q3),.some (.bool false)]⟩⟩,
eQ 606,
eL q4 606,
yo 276,
eL q7 110,
oD q1 [eS P z3 1102 z0 418,eS P fP 1104 pK 1103,eI P z4 1106 291 1105,eR P eb 1107 616,eR P eG 1117 623,eR P z6 1125 630,eR P z2 1133 637,eR P z5 1134 638] 8,
ab q0,
qt 294 622 301 305,
gv pK 1097 291 612 379 1100,
dX 614 611 z0 418],
[ab q0,
ab q0,
az,
kO z1 1111 CV ou xn,
ab q0,
aH 28 1 eG xr,
aB eG 1108 xr 294 2 0 3 617 1115 1116,
aS 28 1 eG xr z0 418 622,
ab q0,
az,
bp q0 z1 1121 ou 0],
[ab q0,
aH 28 2 z6 xt,
aB z6 1118 xt 301 1 0 35 624 1123 1124,
aS 28 2 z6 xt z0 418 629,
ab q0,
az,
bp q0 fV 1129 hU 0,
ab q0,
aH 28 3 z2 xu,
aB z2 1126 xu 305 2 0 3 631 1131 1132,
aS 28 3 z2 xu z0 418 636],
[ab q0,
ab q5,
oD q1 [eS P z3 1102 z0 418,eI P z4 1106 291 1105,eR P eb 1107 616,eR P eG 1117 623,eR P z6 1125 630,eR P z2 1133 637,eR P z5 1134 638,eN P z8 1135] 2,
⟨.ref 110,.none,.cls ⟨pK,[.ref 514,.ref 276],[.ref 641,.ref 514,.ref 276,.ref 217,.ref 187,.ref 253,.type q2],640,pK,false,[lh],[],false,.none,false⟩,⟨[.some (.ref 609),.none,.some (.str pK 1095),.some (.str pK 1103),.some (.builtin q3),.some (.bool false)]⟩⟩,
eQ 641,
eL q4 641,
ab q0,
az,
bp q0 wK 1143 (sZ 0x74) 0,
ab q0,
fQ 30 uG],
[aB uG 1140 uG 311 1 0 3 644 1145 1146,
fX 30 uG dL 1138 649,
ab q0,
az,
gw wK 1151 CW (sZ 0x74616877),
ab q0,
fQ 31 uH,
aB uH 1148 uH 314 3 0 3 651 1154 1155,
fX 31 uH dL 1138 656,
ab q0,
az],
[cN q0 tJ 1160 0,
ab q0,
fQ 32 uI,
aB uI 1157 uI 319 1 0 3 658 1161 1162,
fX 32 uI dL 1138 663,
ab q0,
kL,
oD q1 [eS P z3 1171 dL 1138,eS P fP 1173 pL 1172,eI P z4 1175 324 1174,eR P z5 1176 672] 4,
ab q0,
az,
gv pL 1166 324 668 379 1169],
[dX 670 667 dL 1138,
ab q0,
oD q1 [eS P z3 1171 dL 1138,eI P z4 1175 324 1174,eR P z5 1176 672,eR P rU 1178 675,eR P rV 1180 676,eN P z8 1181] 4,
⟨.type q6,.none,.cls ⟨pL,[.type q2],[.ref 674,.type q2],673,pL,true,[],[],false,.none,false⟩,⟨[.none,.none,.some (.str pL 1164),.some (.str pL 1172),.some (.builtin q3),.some (.bool true)]⟩⟩,
nE 1177 674,
nF 1179 674,
eQ 674,
eL q4 674,
ab q0,
kL,
oD q1 [eS P z3 1191 dL 1138,eS P fP 1193 uJ 1192,eI P z4 1195 326 1194,eR P eb 1198 686,eR P z9 1206 693,eR P uU 1228 702,eR P z6 1235 710,eR P ji 1248 717,eR P z5 1251 718] 9],
[ab q0,
tW 329 692 334 699 340 709 343,
gv uJ 1186 326 682 379 1189,
dX 684 681 dL 1138,
bp q0 uV 1196 uW 0,
ab q0,
az,
bp q0 z1 1202 (sZ 0x73656c626172657469) 0,
ab q0,
aH 34 1 z9 xv,
aB z9 1199 xv 329 1 0 7 687 1204 1205],
[aS 34 1 z9 xv dL 1138 692,
ab q0,
az,
kO fV 1210 pQ (sZ 0x656372756f73) z1,
ab q0,
aH 34 2 uU tP,
aB uU 1207 tP 333 2 2 3 694 1214 1215,
tU 34 2 uU tP dL 1138 703 699,
oD q1 [eS P z3 1217 dL 1138,eS P ot 1220 uU 1219,eS P fP 1223 tP 1222,eN P z8 1225,eR P uw 1227 703] 5,
qu 701 700,
oD q1 [] 0],
[ab q0,
az,
cN q0 z1 1232 0,
ab q0,
aH 34 3 z6 xw,
aB z6 1229 xw 340 1 0 3 704 1233 1234,
aS 34 3 z6 xw dL 1138 709,
ab q0,
az,
yp 1239 tH CW (sZ 0x65726f6d) pQ (sZ 0x657669746361) rX,
ab q0],
[aH 34 4 ji xy,
aB ji 1236 xy 343 1 0 3 711 1246 1247,
aS 34 4 ji xy dL 1138 716,
bp q0 uW 1249 uV 0,
bp q5 uV 1196 uW 1,
oD q1 [eS P z3 1191 dL 1138,eI P z4 1195 326 1194,eR P eb 1198 686,eR P z9 1206 693,eR P uU 1228 702,eR P z6 1235 710,eR P ji 1248 717,eR P z5 1251 718,eR P uW 1253 722,eR P uV 1255 723,eN P z8 1256] 4,
yq uJ 721 720 uW uV 1184,
kN uW 1252 721 1,
kN uV 1254 721 0,
eQ 721,
eL q4 721]]
def II(P:Params):List (List Obj):=[[ab q0,
kL,
oD q1 [eS P z3 1266 dL 1138,eS P fP 1268 pT 1267,eI P z4 1270 378 1269,eR P eb 1273 733,eR P z9 1283 741,eR P z6 1290 748,eR P ji 1297 755,eR P f9 1305 762,eR P pY 1312 769,eR P z5 1315 770] 10,
ab q0,
⟨.none,.none,.fields ⟨[.int 381 0,.int 4 0,.ref 740,.int 392 0,.int 4 0,.ref 747,.int 395 0,.int 4 0,.ref 754,.int 402 0,.int 4 0,.ref 761,.int 408 0,.int 4 0,.ref 768]⟩,⟨[]⟩⟩,
gv pT 1261 378 729 379 1264,
dX 731 728 dL 1138,
bp q0 uX 1271 uY 0,
kM 674,
ab q0,
az],
[kO z1 1277 CB (sZ 0x73656d6974) CX,
ab q0,
aH 35 1 z9 xz,
aB z9 1274 xz 381 3 0 3 735 1281 1282,
tV 35 1 z9 xz 734 dL 1138,
ab q0,
az,
cN q0 z1 1287 0,
ab q0,
aH 35 2 z6 xA,
aB z6 1284 xA 392 1 0 3 742 1288 1289],
[aS 35 2 z6 xA dL 1138 747,
ab q0,
az,
cN q0 z1 1294 0,
ab q0,
aH 35 3 ji xB,
aB ji 1291 xB 395 1 0 3 749 1295 1296,
aS 35 3 ji xB dL 1138 754,
ab q0,
az,
bp q0 z1 1301 CX 0],
[ab q0,
aH 35 4 f9 xC,
aB f9 1298 xC 402 1 0 3 756 1303 1304,
aS 35 4 f9 xC dL 1138 761,
ab q0,
az,
cN q0 z1 1309 0,
ab q0,
aH 35 5 pY xD,
aB pY 1306 xD 408 1 0 3 763 1310 1311,
aS 35 5 pY xD dL 1138 768],
[bp q0 uY 1313 uX 0,
bp q5 uX 1271 uY 1,
oD q1 [eS P z3 1266 dL 1138,eI P z4 1270 378 1269,eR P eb 1273 733,eR P z9 1283 741,eR P z6 1290 748,eR P ji 1297 755,eR P f9 1305 762,eR P pY 1312 769,eR P z5 1315 770,eR P uY 1317 774,eR P uX 1319 775,eN P z8 1320] 4,
yq pT 773 772 uY uX 1259,
kN uY 1316 773 1,
kN uX 1318 773 0,
eQ 773,
eL q4 773,
ab q0,
kL,
oD q1 [eS P z3 1330 dL 1138,eS P fP 1332 pU 1331,eI P z4 1334 412 1333,eR P eb 1337 785,eR P z9 1346 792,eR P z6 1353 799,eR P ji 1361 806,eR P z5 1364 807] 8],
[ab q0,
qt 415 791 419 422,
gv pU 1325 412 781 379 1328,
dX 783 780 dL 1138,
bp q0 uZ 1335 u2 0,
ab q0,
az,
gw z1 1341 (sZ 0x6e6f6974636e7566) pQ,
ab q0,
aH 36 1 z9 xE,
aB z9 1338 xE 415 3 3 3 786 1344 1345],
[aS 36 1 z9 xE dL 1138 791,
ab q0,
az,
cN q0 z1 1350 0,
ab q0,
aH 36 2 z6 xF,
aB z6 1347 xF 419 1 0 3 793 1351 1352,
aS 36 2 z6 xF dL 1138 798,
ab q0,
az,
bp q0 z1 1357 (sZ 0x73677261) 0],
[ab q0,
aH 36 3 ji xG,
aB ji 1354 xG 422 1 0 3 800 1359 1360,
aS 36 3 ji xG dL 1138 805,
bp q0 u2 1362 uZ 0,
bp q5 uZ 1335 u2 1,
oD q1 [eS P z3 1330 dL 1138,eI P z4 1334 412 1333,eR P eb 1337 785,eR P z9 1346 792,eR P z6 1353 799,eR P ji 1361 806,eR P z5 1364 807,eR P u2 1366 811,eR P uZ 1368 812,eN P z8 1369] 4,
yq pU 810 809 u2 uZ 1323,
kN u2 1365 810 1,
kN uZ 1367 810 0,
eQ 810],
[eL q4 810,
ab q0,
az,
kO CU 1377 pQ (sZ 0x7465675f676e697070616d) iS,
ab q0,
fQ 38 rR,
aB rR 1374 rR 428 2 0 3 815 1381 1382,
fX 38 rR z7 1372 820,
md,
ab q0,
az],
[fQ 40 rS,
qw rS 1386 rS 433 3 823 1389,
⟨.type q8,.none,.func (fo (st 40) rS rS 3 [] (.ref 822) (.none) (.none) (.str (sZ 0x7170616568) 1384) .none (.ref 826) (.none) 0),⟨[]⟩⟩,
ab q0,
kL,
oD q1 [eS P z3 1401 pR 1392,eS P fP 1403 pM 1402,eI P z4 1405 479 1404,eR P eb 1407 835,eR P z9 1416 842,eR P pZ 1427 849,eR P f9 1435 856,eR P ng 1442 863,eR P z5 1444 864] 9,
ab q0,
tW 482 841 485 848 494 855 500,
gv pM 1396 479 831 379 1399,
dX 833 830 pR 1392,
cN q0 u3 1406 0],
[ab q0,
az,
gw z1 1411 rX pP,
ab q0,
aH 42 1 z9 xH,
aB z9 1408 xH 482 2 2 7 836 1414 1415,
aS 42 1 z9 xH pR 1392 841,
ab q0,
az,
tX 1420 (sZ 0x6a626f) pP rZ rX,
ab q0]]
def IJ(P:Params):List (List Obj):=[[aH 42 2 pZ xI,
aB pZ 1417 xI 485 2 2 3 843 1425 1426,
aS 42 2 pZ xI pR 1392 848,
ab q0,
az,
bp q0 z1 1431 (sZ 0x72) 0,
ab q0,
aH 42 3 f9 xJ,
aB f9 1428 xJ 494 1 0 3 850 1433 1434,
aS 42 3 f9 xJ pR 1392 855,
ab q0],
[az,
cN q0 z1 1439 0,
ab q0,
aH 42 4 ng xK,
aB ng 1436 xK 500 1 0 3 857 1440 1441,
aS 42 4 ng xK pR 1392 862,
cN q0 u3 1443 0,
cN q5 u3 1406 1,
oD q1 [eS P z3 1401 pR 1392,eI P z4 1405 479 1404,eR P eb 1407 835,eR P z9 1416 842,eR P pZ 1427 849,eR P f9 1435 856,eR P ng 1442 863,eR P z5 1444 864,eR P u3 1446 868,eN P z8 1447] 3,
⟨.type q6,.none,.cls ⟨pM,[.type q2],[.ref 867,.type q2],866,pM,false,[u3],[],false,.none,false⟩,⟨[.none,.none,.some (.str pM 1394),.some (.str pM 1402),.some (.builtin q3),.some (.bool false)]⟩⟩,
kN u3 1445 867 0],
[eQ 867,
eL q4 867,
⟨.type q0,.none,.seq ⟨[.type q1]⟩ 0,⟨[]⟩⟩,
kL,
oD q1 [eS P z3 1459 z7 1450,eS P fP 1461 pN 1460,eI P z4 1463 505 1462,eR P z9 1473 887,eR P qa 1481 894,eR P qb 1488 901,eR P qc 1496 909,eR P qe 1503 916,eR P u4 1524 926,eR P qf 1537 936,eR P qg 1549 944,eR P qh 1556 951,eR P ng 1563 958,eR P qj 1572 966,eR P f9 1580 973,eR P gu 1590 980,eR P qk 1598 987,eR P l6 1608 994,eR P l7 1616 1001,eR P l9 1626 1008,eR P l8 1634 1015,eR P ql 1646 1022,eR P mc 1658 1029,eR P mb 1671 1036,eR P ma 1684 1043,eR P qm 1694 1050,eR P qn 1704 1057,eR P qo 1710 1062,eR P qp 1720 1069,eR P qq 1730 1076,eR P qr 1741 1083,eR P qs 1752 1090,eR P z5 1753 1091,eR P (sZ 0x5f5f6c6c65637373616c635f5f) 1754 874] 34,
⟨.type SL.s15660640913423913556x4,.none,.cell (.some (.ref 1093)),⟨[]⟩⟩,
ab q0,
⟨.none,.none,.fields ⟨[.int 507 0,.int 4 0,.ref 886,.int 511 0,.int 4 0,.ref 893,.int 514 0,.int 4 0,.ref 900,.int 517 0,.int 4 0,.ref 908,.int 523 0,.int 4 0,.ref 915,.int 527 0,.int 4 0,.ref 923,.int 530 0,.int 4 0,.ref 935,.int 544 0,.int 4 0,.ref 943,.int 556 0,.int 4 0,.ref 950,.int 559 0,.int 4 0,.ref 957,.int 562 0,.int 4 0,.ref 965,.int 566 0,.int 4 0,.ref 972,.int 575 0,.int 4 0,.ref 979,.int 580 0,.int 4 0,.ref 986,.int 585 0,.int 4 0,.ref 993,.int 590 0,.int 4 0,.ref 1000,.int 595 0,.int 4 0,.ref 1007,.int 600 0,.int 4 0,.ref 1014,.int 605 0,.int 4 0,.ref 1021,.int 618 0,.int 4 0,.ref 1028,.int 631 0,.int 4 0,.ref 1035,.int 645 0,.int 4 0,.ref 1042,.int 656 0,.int 4 0,.ref 1049,.int 663 0,.int 4 0,.ref 1056,.int 670 0,.int 4 0,.ref 1061,.int 676 0,.int 4 0,.ref 1068,.int 681 0,.int 4 0,.ref 1075,.int 686 0,.int 4 0,.ref 1082,.int 693 0,.int 4 0,.ref 1089]⟩,⟨[]⟩⟩,
gv pN 1454 505 875 379 1457,
dX 877 873 z7 1450,
md],
[kM 874,
cN q0 u5 1467 0,
az,
gw z1 1468 pQ xL,
ab q0,
aH 44 0 z9 xM,
aB z9 1464 xM 507 2 2 11 881 1471 1472,
⟨.type q8,.none,.func (fo (sc 44 0) z9 xM 3 [(u5,874)] (.ref 879) (.none) (.none) (.str z7 1450) .none (.ref 886) (.ref 880) 0),⟨[]⟩⟩,
ab q0,
az,
bp q0 z1 1477 ou 0],
[ab q0,
aH 44 1 qa xN,
aB qa 1474 xN 511 2 0 3 888 1479 1480,
aS 44 1 qa xN z7 1450 893,
ab q0,
az,
cN q0 z1 1485 0,
ab q0,
aH 44 2 qb xO,
aB qb 1482 xO 514 1 0 3 895 1486 1487,
aS 44 2 qb xO z7 1450 900],
[md,
ab q0,
az,
bp q0 z1 1492 (sZ 0x6e) 0,
ab q0,
aH 44 3 qc xP,
aB qc 1489 xP 517 2 0 3 903 1494 1495,
tV 44 3 qc xP 902 z7 1450,
ab q0,
az,
cN q0 z1 1500 0],
[ab q0,
aH 44 4 qe xQ,
aB qe 1497 xQ 523 1 0 3 910 1501 1502,
aS 44 4 qe xQ z7 1450 915,
md,
ab q0,
az,
gw fV 1507 pQ xn,
ab q0,
aH 44 5 u4 tQ,
aB u4 1504 tQ 526 3 0 3 918 1510 1511],
[⟨.type q8,.none,.func (fo (sc 44 5) u4 tQ 3 [] (.ref 917) (.none) (.none) (.str z7 1450) (.some 927) (.ref 923) (.none) 0),⟨[]⟩⟩,
oD q1 [eS P z3 1513 z7 1450,eS P ot 1516 u4 1515,eS P fP 1519 tQ 1518,eN P z8 1521,eR P uw 1523 927] 5,
qu 925 924,
oD q1 [] 0,
md,
kM 874,
cN q0 u5 1528 0,
az,
tY 1529 pQ xL CY iS lj,
ab q0,
aH 44 6 qf xR],
[aB qf 1525 xR 530 2 2 11 930 1535 1536,
⟨.type q8,.none,.func (fo (sc 44 6) qf xR 3 [(u5,874)] (.ref 928) (.none) (.none) (.str z7 1450) .none (.ref 935) (.ref 929) 0),⟨[]⟩⟩,
md,
ab q0,
az,
tY 1541 pQ xL CY iS lj,
ab q0,
aH 44 7 qg xS,
aB qg 1538 xS 544 2 2 11 938 1547 1548,
tV 44 7 qg xS 937 z7 1450,
ab q0],
[az,
cN q0 z1 1553 0,
ab q0,
aH 44 8 qh xT,
aB qh 1550 xT 556 1 0 3 945 1554 1555,
aS 44 8 qh xT z7 1450 950,
ab q0,
az,
cN q0 z1 1560 0,
ab q0,
aH 44 9 ng xU],
[aB ng 1557 xU 559 1 0 3 952 1561 1562,
aS 44 9 ng xU z7 1450 957,
kM 874,
cN q0 u5 1567 0,
az,
bp q0 z1 1568 iS 0,
ab q0,
aH 44 10 qj xV,
aB qj 1564 xV 562 2 0 3 960 1570 1571,
⟨.type q8,.none,.func (fo (sc 44 10) qj xV 3 [(u5,874)] (.none) (.none) (.none) (.str z7 1450) .none (.ref 965) (.ref 959) 0),⟨[]⟩⟩,
ab q0]]
def IK:List (List Obj):=[[az,
bp q0 z1 1576 (sZ 0x64) 0,
ab q0,
aH 44 11 f9 xW,
aB f9 1573 xW 566 1 0 3 967 1578 1579,
aS 44 11 f9 xW z7 1450 972,
ab q0,
az,
bp q0 z1 1584 ed 0,
bp q0 z1 1586 ed 0,
aH 44 12 gu xX],
[aB gu 1581 xX 575 2 0 3 974 1588 1589,
aS 44 12 gu xX z7 1450 979,
ab q0,
az,
bp q0 z1 1594 ed 0,
ab q0,
aH 44 13 qk xY,
aB qk 1591 xY 580 2 0 3 981 1596 1597,
aS 44 13 qk xY z7 1450 986,
ab q0,
az],
[bp q0 z1 1602 ed 0,
bp q0 z1 1604 ed 0,
aH 44 14 l6 xZ,
aB l6 1599 xZ 585 2 0 3 988 1606 1607,
aS 44 14 l6 xZ z7 1450 993,
ab q0,
az,
bp q0 z1 1612 ed 0,
ab q0,
aH 44 15 l7 x4,
aB l7 1609 x4 590 2 0 3 995 1614 1615],
[aS 44 15 l7 x4 z7 1450 1000,
ab q0,
az,
bp q0 z1 1620 ed 0,
bp q0 z1 1622 ed 0,
aH 44 16 l9 x6,
aB l9 1617 x6 595 2 0 3 1002 1624 1625,
aS 44 16 l9 x6 z7 1450 1007,
ab q0,
az,
bp q0 z1 1630 ed 0],
[ab q0,
aH 44 17 l8 ya,
aB l8 1627 ya 600 2 0 3 1009 1632 1633,
aS 44 17 l8 ya z7 1450 1014,
ab q0,
az,
tY 1638 ed rZ iS lj tR,
ab q0,
aH 44 18 ql yb,
aB ql 1635 yb 605 2 0 3 1016 1644 1645,
aS 44 18 ql yb z7 1450 1021],
[ab q0,
az,
tY 1650 ed rZ iS lj tR,
ab q0,
aH 44 19 mc yc,
aB mc 1647 yc 618 2 0 3 1023 1656 1657,
aS 44 19 mc yc z7 1450 1028,
ab q0,
az,
yp 1662 ed rZ iS lj tS tR,
ab q0],
[aH 44 20 mb yd,
aB mb 1659 yd 631 2 0 3 1030 1669 1670,
aS 44 20 mb yd z7 1450 1035,
ab q0,
az,
yp 1675 ed rZ iS lj tS tR,
ab q0,
aH 44 21 ma ye,
aB ma 1672 ye 645 2 0 3 1037 1682 1683,
aS 44 21 ma ye z7 1450 1042,
ab q0],
[az,
kO z1 1688 rZ iS lj,
ab q0,
aH 44 22 qm yf,
aB qm 1685 yf 656 1 0 3 1044 1692 1693,
aS 44 22 qm yf z7 1450 1049,
ab q0,
az,
kO z1 1698 rZ iS lj,
ab q0,
aH 44 23 qn yg],
[aB qn 1695 yg 663 1 0 3 1051 1702 1703,
aS 44 23 qn yg z7 1450 1056,
ab q0,
az,
aH 44 24 qo yh,
qw qo 1705 yh 670 1 1058 1708,
aS 44 24 qo yh z7 1450 1061,
ab q0,
az,
kO z1 1714 ed iS lj,
ab q0],
[aH 44 25 qp yi,
aB qp 1711 yi 676 2 0 3 1063 1718 1719,
aS 44 25 qp yi z7 1450 1068,
ab q0,
az,
kO z1 1724 ed iS lj,
ab q0,
aH 44 26 qq yj,
aB qq 1721 yj 681 2 0 3 1070 1728 1729,
aS 44 26 qq yj z7 1450 1075,
ab q0],
[az,
tX 1734 ed iS tS lj,
ab q0,
aH 44 27 qr yk,
aB qr 1731 yk 686 2 0 3 1077 1739 1740,
aS 44 27 qr yk z7 1450 1082,
ab q0,
az,
tX 1745 ed iS lj tS,
ab q0,
aH 44 28 qs yl]]
def IL(P:Params):List (List Obj):=[[aB qs 1742 yl 693 2 0 3 1084 1750 1751,
aS 44 28 qs yl z7 1450 1089,
ab q0,
oD q1 [eS P z3 1459 z7 1450,eI P z4 1463 505 1462,eR P z9 1473 887,eR P qa 1481 894,eR P qb 1488 901,eR P qc 1496 909,eR P qe 1503 916,eR P u4 1524 926,eR P qf 1537 936,eR P qg 1549 944,eR P qh 1556 951,eR P ng 1563 958,eR P qj 1572 966,eR P f9 1580 973,eR P gu 1590 980,eR P qk 1598 987,eR P l6 1608 994,eR P l7 1616 1001,eR P l9 1626 1008,eR P l8 1634 1015,eR P ql 1646 1022,eR P mc 1658 1029,eR P mb 1671 1036,eR P ma 1684 1043,eR P qm 1694 1050,eR P qn 1704 1057,eR P qo 1710 1062,eR P qp 1720 1069,eR P qq 1730 1076,eR P qr 1741 1083,eR P qs 1752 1090,eR P z5 1753 1091,eR P rU 1756 1094,eR P rV 1758 1095,eN P z8 1759,eN P pO 1760] 6,
⟨.type q6,.none,.cls ⟨pN,[.type q1],[.ref 1093,.type q1,.type q2],1092,pN,true,[],[],false,.none,false⟩,⟨[.some (.ref 871),.none,.some (.str pN 1452),.some (.str pN 1460),.some (.builtin SL.s15987600418018006706x12),.some (.bool true)]⟩⟩,
nE 1755 1093,
nF 1757 1093,
eQ 1093,
eL q4 1093,
ab q0,
az],
[fQ 46 uK,
qw uK 1765 uK 700 2 1098 1768,
fX 46 uK ty 1763 1101,
ab q0,
az,
fQ 47 uL,
qw uL 1771 uL 707 1 1103 1774,
fX 47 uL ty 1763 1106,
ab q0,
az,
fQ 48 pV],
[qw pV 1777 pV 714 1 1108 1780,
fX 48 pV ty 1763 1111]]
def fin(P:Params)(b:Nat):Obj:=wk default (wk [] (wk [] [IB P,IC P,ID P,IE P,IF P,IG P,II P,IJ P,IK,IL P] (Nat.div b 121)) (Nat.mod (Nat.div b 11) 11)) (Nat.mod b 11)
def IM(P:Params)(b:Nat):Obj:=cR (fin P) [(3,oA P u6 164 11 12)] b 0
def T0(P:Params):BT:=tr (IM P) 50 12 1 0
def IN(P:Params)(b:Nat):Obj:=cR (fin P) [(3,oA P u6 164 11 12),(51,oB 0)] b 1
def T1(P:Params):BT:=tr (IN P) 54 12 1 0
def IP(P:Params)(b:Nat):Obj:=cR (fin P) [(3,oA P z0 418 15 16),(51,oB 12)] b 2
def T2(P:Params):BT:=tr (IP P) 120 12 1 0
def IQ(P:Params)(b:Nat):Obj:=cR (fin P) [(3,oA P z0 418 21 22),(51,oB 30),(187,nH pS 187 186 503)] b 3
def T3(P:Params):BT:=tr (IQ P) 192 12 1 0
def IR(P:Params)(b:Nat):Obj:=cR (fin P) [(3,oA P z0 418 22 23),(51,oB 33),(187,nH pS 187 186 503),(217,nH jK 217 216 549)] b 4
def T4(P:Params):BT:=tr (IR P) 221 12 1 0
def IS(P:Params)(b:Nat):Obj:=cR (fin P) [(3,oA P z0 418 23 24),(51,oB 36),(187,nH pS 187 186 503),(217,nH jK 217 216 549),(253,nH uF 253 252 586)] b 5
def T5(P:Params):BT:=tr (IS P) 258 12 1 0
def IT(P:Params)(b:Nat):Obj:=cR (fin P) [(3,oA P z0 418 24 25),(51,oB 39),(217,nG jK 217 216 549),(276,⟨.ref 110,.none,.cls ⟨dq,[.ref 217,.ref 187,.ref 253],[.ref 276,.ref 217,.ref 187,.ref 253,.type q2],275,dq,false,[],[],true,.none,false⟩,⟨[.some (.ref 258),.none,.some (.str dq 633),.some (.str dq 641),.some (.builtin q3),.some (.bool false)]⟩⟩)] b 6
def T6(P:Params):BT:=tr (IT P) 280 12 1 0
def IU(P:Params)(b:Nat):Obj:=cR (fin P) [(3,oA P z0 418 25 26),(51,oB 42),(217,nG jK 217 216 549),(276,⟨.ref 110,.none,.cls ⟨dq,[.ref 217,.ref 187,.ref 253],[.ref 276,.ref 217,.ref 187,.ref 253,.type q2],275,dq,false,[],[.ref 392],true,.none,false⟩,⟨[.some (.ref 258),.none,.some (.str dq 633),.some (.str dq 641),.some (.builtin q3),.some (.bool false)]⟩⟩),(391,oD q1 [eS P z3 672 z0 418,eI P z4 676 97 675,eR P eb 677 287,eR P l6 686 294,eR P l7 694 301,eR P l8 702 308,eR P l9 711 315,eR P gu 719 322,eR P gN 739 331,eR P ma 748 339,eR P wP 749 339,eR P uN 757 346,eR P mb 766 353,eR P wQ 767 353,eR P mc 776 360,eR P uO 785 367,eR P uP 793 374,eR P wR 794 374,eR P uQ 801 381,eR P z2 809 388,eR P z5 810 389,eN P z8 811,eN P pO 812] 3),(392,⟨.ref 110,.none,.cls ⟨eK,[.ref 276],[.ref 392,.ref 276,.ref 217,.ref 187,.ref 253,.type q2],391,eK,false,[],[],false,.none,false⟩,⟨[.some (.ref 280),.none,.some (.str eK 665),.some (.str eK 673),.some (.builtin q3),.some (.bool false)]⟩⟩)] b 7
def T7(P:Params):BT:=tr (IU P) 395 12 1 0
def IV(P:Params)(b:Nat):Obj:=cR (fin P) [(3,oA P z0 418 25 26),(51,oB 42),(217,nG jK 217 216 549),(276,⟨.ref 110,.none,.cls ⟨dq,[.ref 217,.ref 187,.ref 253],[.ref 276,.ref 217,.ref 187,.ref 253,.type q2],275,dq,false,[],[.ref 392],true,.none,false⟩,⟨[.some (.ref 258),.none,.some (.str dq 633),.some (.str dq 641),.some (.builtin q3),.some (.bool false)]⟩⟩),(392,⟨.ref 110,.none,.cls ⟨eK,[.ref 276],[.ref 392,.ref 276,.ref 217,.ref 187,.ref 253,.type q2],391,eK,false,[],[],true,.none,false⟩,⟨[.some (.ref 280),.none,.some (.str eK 665),.some (.str eK 673),.some (.builtin q3),.some (.bool false)]⟩⟩)] b 8
def T8(P:Params):BT:=tr (IV P) 396 12 1 0
def IW(P:Params)(b:Nat):Obj:=cR (fin P) [(3,oA P z0 418 26 27),(51,oB 45),(217,nG jK 217 216 549),(276,⟨.ref 110,.none,.cls ⟨dq,[.ref 217,.ref 187,.ref 253],[.ref 276,.ref 217,.ref 187,.ref 253,.type q2],275,dq,false,[],[.ref 392,.ref 464],true,.none,false⟩,⟨[.some (.ref 258),.none,.some (.str dq 633),.some (.str dq 641),.some (.builtin q3),.some (.bool false)]⟩⟩),(392,⟨.ref 110,.none,.cls ⟨eK,[.ref 276],[.ref 392,.ref 276,.ref 217,.ref 187,.ref 253,.type q2],391,eK,false,[],[],true,.none,false⟩,⟨[.some (.ref 280),.none,.some (.str eK 665),.some (.str eK 673),.some (.builtin q3),.some (.bool false)]⟩⟩),(463,oD q1 [eS P z3 829 z0 418,eI P z4 833 186 832,eR P eb 834 403,eR P rY 842 410,eR P uR 851 418,eR P eG 859 425,eR P uS 866 432,eR P pP 873 439,eR P uT 880 446,eR P gu 888 453,eN P w5 889,eR P z2 897 460,eR P z5 898 461,eN P z8 899,eN P pO 900] 3),(464,⟨.ref 110,.none,.cls ⟨lg,[.ref 276],[.ref 464,.ref 276,.ref 217,.ref 187,.ref 253,.type q2],463,lg,false,[],[],false,.none,false⟩,⟨[.some (.ref 396),.none,.some (.str lg 822),.some (.str lg 830),.some (.builtin q3),.some (.bool false)]⟩⟩)] b 9
def T9(P:Params):BT:=tr (IW P) 467 12 1 0
def F6(P:Params)(b:Nat):Obj:=cR (fin P) [(3,oA P z0 418 27 28),(51,oB 48),(276,⟨.ref 110,.none,.cls ⟨dq,[.ref 217,.ref 187,.ref 253],[.ref 276,.ref 217,.ref 187,.ref 253,.type q2],275,dq,false,[],[.ref 392,.ref 464],true,.none,false⟩,⟨[.some (.ref 258),.none,.some (.str dq 633),.some (.str dq 641),.some (.builtin q3),.some (.bool false)]⟩⟩),(392,⟨.ref 110,.none,.cls ⟨eK,[.ref 276],[.ref 392,.ref 276,.ref 217,.ref 187,.ref 253,.type q2],391,eK,false,[],[],true,.none,false⟩,⟨[.some (.ref 280),.none,.some (.str eK 665),.some (.str eK 673),.some (.builtin q3),.some (.bool false)]⟩⟩),(514,⟨.ref 110,.none,.cls ⟨gt,[.ref 217],[.ref 514,.ref 217,.type q2],513,gt,false,[lh],[],false,.none,false⟩,⟨[.some (.ref 468),.none,.some (.str gt 910),.some (.str gt 918),.some (.builtin q3),.some (.bool false)]⟩⟩)] b 10
def IX(P:Params):BT:=tr (F6 P) 519 12 1 0
def F7(P:Params)(b:Nat):Obj:=cR (fin P) [(3,oA P z0 418 28 29),(51,oB 51),(276,⟨.ref 110,.none,.cls ⟨dq,[.ref 217,.ref 187,.ref 253],[.ref 276,.ref 217,.ref 187,.ref 253,.type q2],275,dq,false,[],[.ref 392,.ref 464],true,.none,false⟩,⟨[.some (.ref 258),.none,.some (.str dq 633),.some (.str dq 641),.some (.builtin q3),.some (.bool false)]⟩⟩),(392,⟨.ref 110,.none,.cls ⟨eK,[.ref 276],[.ref 392,.ref 276,.ref 217,.ref 187,.ref 253,.type q2],391,eK,false,[],[.ref 561],true,.none,false⟩,⟨[.some (.ref 280),.none,.some (.str eK 665),.some (.str eK 673),.some (.builtin q3),.some (.bool false)]⟩⟩),(514,⟨.ref 110,.none,.cls ⟨gt,[.ref 217],[.ref 514,.ref 217,.type q2],513,gt,false,[lh],[.ref 561],false,.none,false⟩,⟨[.some (.ref 468),.none,.some (.str gt 910),.some (.str gt 918),.some (.builtin q3),.some (.bool false)]⟩⟩)] b 11
def IY(P:Params):BT:=tr (F7 P) 564 12 1 0
def F8(P:Params)(b:Nat):Obj:=cR (fin P) [(3,oA P z0 418 29 30),(51,oB 54),(276,⟨.ref 110,.none,.cls ⟨dq,[.ref 217,.ref 187,.ref 253],[.ref 276,.ref 217,.ref 187,.ref 253,.type q2],275,dq,false,[],[.ref 392,.ref 464],true,.none,false⟩,⟨[.some (.ref 258),.none,.some (.str dq 633),.some (.str dq 641),.some (.builtin q3),.some (.bool false)]⟩⟩),(514,⟨.ref 110,.none,.cls ⟨gt,[.ref 217],[.ref 514,.ref 217,.type q2],513,gt,false,[lh],[.ref 561,.ref 606],false,.none,false⟩,⟨[.some (.ref 468),.none,.some (.str gt 910),.some (.str gt 918),.some (.builtin q3),.some (.bool false)]⟩⟩)] b 12
def IZ(P:Params):BT:=tr (F8 P) 609 12 1 0
def F9(P:Params)(b:Nat):Obj:=cR (fin P) [(3,oA P dL 1138 33 34),(51,oB 66)] b 13
def I4(P:Params):BT:=tr (F9 P) 665 12 1 0
def Ga(P:Params)(b:Nat):Obj:=cR (fin P) [(3,oA P dL 1138 34 35),(51,oB 69)] b 14
def I5(P:Params):BT:=tr (Ga P) 679 12 1 0
def Gb(P:Params)(b:Nat):Obj:=cR (fin P) [(3,oA P dL 1138 35 36),(51,oB 72)] b 15
def I6(P:Params):BT:=tr (Gb P) 726 12 1 0
def Gc(P:Params)(b:Nat):Obj:=cR (fin P) [(3,oA P dL 1138 36 37),(51,oB 75)] b 16
def I7(P:Params):BT:=tr (Gc P) 778 12 1 0
def Gd(P:Params)(b:Nat):Obj:=cR (fin P) [(3,oA P pR 1392 39 40),(51,oB 84)] b 17
def I8(P:Params):BT:=tr (Gd P) 828 12 1 0
def Ge(P:Params)(b:Nat):Obj:=cR (fin P) [(3,oA P z7 1450 40 41),(51,oB 87)] b 18
def I9(P:Params):BT:=tr (Ge P) 871 12 1 0
def Gf(P:Params)(b:Nat):Obj:=cR (fin P) [(3,oA P z7 1450 41 42),(51,oB 90)] b 19
def Ja(P:Params):BT:=tr (Gf P) 1098 12 1 0
def tZ(P:Params):Nat->Obj:=fin P
def qx(P:Params):BT:=tr (tZ P) 1113 12 1 0
noncomputable def life:Life:={}
noncomputable def jj:List Str:=[tE,tF,tG,ux,pG,pH,uy,uA,uB,uC,uD,uE,pS,jK,uF,dq,eK,lg,gt,pI,pJ,pK,uG,uH,uI,pL,uJ,pT,pU,rR,rS,pM,pN,uK,uL]
noncomputable def S0 (w:World) (os:OsState):SharedT:=⟨T0 w.params,50,life,⟨[]⟩,bD,379,os⟩
noncomputable def S1 (w:World) (os:OsState):SharedT:=⟨T1 w.params,54,life,⟨[]⟩,bD,385,os⟩
noncomputable def S2 (w:World) (os:OsState):SharedT:=⟨T2 w.params,120,life,⟨[]⟩,bD,468,os⟩
noncomputable def S3 (w:World) (os:OsState):SharedT:=⟨T3 w.params,192,life,⟨[]⟩,bD,549,os⟩
noncomputable def S4 (w:World) (os:OsState):SharedT:=⟨T4 w.params,221,life,⟨[]⟩,bD,586,os⟩
noncomputable def S5 (w:World) (os:OsState):SharedT:=⟨T5 w.params,258,life,⟨[]⟩,bD,633,os⟩
noncomputable def S6 (w:World) (os:OsState):SharedT:=⟨T6 w.params,280,life,⟨[]⟩,bD,665,os⟩
noncomputable def S7 (w:World) (os:OsState):SharedT:=⟨T7 w.params,395,life,⟨[]⟩,bD,815,os⟩
noncomputable def S8 (w:World) (os:OsState):SharedT:=⟨T8 w.params,396,life,⟨[]⟩,bD,822,os⟩
noncomputable def S9 (w:World) (os:OsState):SharedT:=⟨T9 w.params,467,life,⟨[]⟩,bD,903,os⟩
noncomputable def Gg (w:World) (os:OsState):SharedT:=⟨IX w.params,519,life,⟨[]⟩,bD,971,os⟩
noncomputable def Gh (w:World) (os:OsState):SharedT:=⟨IY w.params,564,life,⟨[]⟩,bD,1031,os⟩
noncomputable def Gi (w:World) (os:OsState):SharedT:=⟨IZ w.params,609,life,⟨[]⟩,bD,1095,os⟩
noncomputable def Gj (w:World) (os:OsState):SharedT:=⟨I4 w.params,665,life,⟨[]⟩,bD,1164,os⟩
noncomputable def Gk (w:World) (os:OsState):SharedT:=⟨I5 w.params,679,life,⟨[]⟩,bD,1184,os⟩
noncomputable def Gl (w:World) (os:OsState):SharedT:=⟨I6 w.params,726,life,⟨[]⟩,bD,1259,os⟩
noncomputable def Gm (w:World) (os:OsState):SharedT:=⟨I7 w.params,778,life,⟨[]⟩,bD,1323,os⟩
noncomputable def Gn (w:World) (os:OsState):SharedT:=⟨I8 w.params,828,life,⟨[]⟩,bD,1394,os⟩
noncomputable def Go (w:World) (os:OsState):SharedT:=⟨I9 w.params,871,life,⟨[]⟩,bD,1452,os⟩
noncomputable def Gp (w:World) (os:OsState):SharedT:=⟨Ja w.params,1098,life,⟨[]⟩,bD,1763,os⟩
noncomputable def Bi (w:World) (os:OsState):SharedT:=⟨qx w.params,1113,life,⟨[]⟩,bD,1783,os⟩
def dz:Env:={scope:=pw.main.scope,locals:=mainNs,globals:=mainNs,cells:=[],code:=.ref 52,frame:=some 53}
noncomputable def cT:Code:=.body (behindTheImports pw) dz
noncomputable def fB:List Frame:=[topFrame ⟨0,0,0,0⟩]
noncomputable def c9 (i k:Nat):List Stmt:=(Cz.drop i).take k
theorem bj (w:World) (n:Nat) (S:SharedT) (l:List Stmt) (q:Pos):segRunT treeTable pw w 50 (some (.ref 6)) 1 n S (piecesOf l dz cT q fB)=
  Fast.tw10110043849684766642 Fast.tw14364793385576792824 pw w 50 (some (.ref 6)) 1 n S ⟨(Fast.tw12563942051412417395 l dz).wrap doneF deadEnd id id,cT,q,fB⟩:=by
 unfold piecesOf
 rw [Fast.te10110043849684766642,Fast.te14364793385576792824,Fast.te12563942051412417395]
theorem Bj (w:World) (os:OsState):segRunT treeTable pw w 50 (some (.ref 6)) 1 595 (S1 w os) (piecesOf (c9 2 6) dz cT ⟨0,0,0,0⟩ fB)=some (.next,S2 w os,cT,⟨27,0,29,16⟩):=by
 rw [bj]
 kernel_rfl
theorem Bk (w:World) (os:OsState):segRunT treeTable pw w 50 (some (.ref 6)) 1 547 (S2 w os) (piecesOf (c9 8 7) dz cT ⟨27,0,29,16⟩ fB)=some (.next,S3 w os,cT,⟨58,0,58,28⟩):=by
 rw [bj]
 kernel_rfl
theorem Bl (w:World) (os:OsState):segRunT treeTable pw w 50 (some (.ref 6)) 1 364 (S3 w os) (piecesOf (c9 15 2) dz cT ⟨58,0,58,28⟩ fB)=some (.next,S4 w os,cT,⟨70,0,70,25⟩):=by
 rw [bj]
 kernel_rfl
theorem Bm (w:World) (os:OsState):segRunT treeTable pw w 50 (some (.ref 6)) 1 403 (S4 w os) (piecesOf (c9 17 2) dz cT ⟨70,0,70,25⟩ fB)=some (.next,S5 w os,cT,⟨85,0,85,29⟩):=by
 rw [bj]
 kernel_rfl
theorem Bn (w:World) (os:OsState):segRunT treeTable pw w 50 (some (.ref 6)) 1 441 (S5 w os) (piecesOf (c9 19 2) dz cT ⟨85,0,85,29⟩ fB)=some (.next,S6 w os,cT,⟨96,0,96,30⟩):=by
 rw [bj]
 kernel_rfl
theorem Bp (w:World) (os:OsState):segRunT treeTable pw w 50 (some (.ref 6)) 1 956 (S6 w os) (piecesOf (c9 21 1) dz cT ⟨96,0,96,30⟩ fB)=some (.next,S7 w os,cT,⟨97,0,184,45⟩):=by
 rw [bj]
 kernel_rfl
theorem Bq (w:World) (os:OsState):segRunT treeTable pw w 50 (some (.ref 6)) 1 58 (S7 w os) (piecesOf (c9 22 1) dz cT ⟨97,0,184,45⟩ fB)=some (.next,S8 w os,cT,⟨185,0,185,23⟩):=by
 rw [bj]
 kernel_rfl
theorem Br (w:World) (os:OsState):segRunT treeTable pw w 50 (some (.ref 6)) 1 596 (S8 w os) (piecesOf (c9 23 1) dz cT ⟨185,0,185,23⟩ fB)=some (.next,S9 w os,cT,⟨186,0,225,45⟩):=by
 rw [bj]
 kernel_rfl
theorem Bt (w:World) (os:OsState):segRunT treeTable pw w 50 (some (.ref 6)) 1 518 (S9 w os) (piecesOf (c9 24 2) dz cT ⟨186,0,225,45⟩ fB)=some (.next,Gg w os,cT,⟨227,0,247,18⟩):=by
 rw [bj]
 kernel_rfl
theorem Bu (w:World) (os:OsState):segRunT treeTable pw w 50 (some (.ref 6)) 1 641 (Gg w os) (piecesOf (c9 26 1) dz cT ⟨227,0,247,18⟩ fB)=some (.next,Gh w os,cT,⟨248,0,265,45⟩):=by
 rw [bj]
 kernel_rfl
theorem yr (w:World) (os:OsState):segRunT treeTable pw w 50 (some (.ref 6)) 1 645 (Gh w os) (piecesOf (c9 27 1) dz cT ⟨248,0,265,45⟩ fB)=some (.next,Gi w os,cT,⟨266,0,290,45⟩):=by
 rw [bj]
 kernel_rfl
theorem yt (w:World) (os:OsState):segRunT treeTable pw w 50 (some (.ref 6)) 1 565 (Gi w os) (piecesOf (c9 28 5) dz cT ⟨266,0,290,45⟩ fB)=some (.next,Gj w os,cT,⟨319,0,323,28⟩):=by
 rw [bj]
 kernel_rfl
theorem yu (w:World) (os:OsState):segRunT treeTable pw w 50 (some (.ref 6)) 1 191 (Gj w os) (piecesOf (c9 33 1) dz cT ⟨319,0,323,28⟩ fB)=some (.next,Gk w os,cT,⟨324,0,325,8⟩):=by
 rw [bj]
 kernel_rfl
theorem yv (w:World) (os:OsState):segRunT treeTable pw w 50 (some (.ref 6)) 1 487 (Gk w os) (piecesOf (c9 34 1) dz cT ⟨324,0,325,8⟩ fB)=some (.next,Gl w os,cT,⟨326,0,377,30⟩):=by
 rw [bj]
 kernel_rfl
theorem yw (w:World) (os:OsState):segRunT treeTable pw w 50 (some (.ref 6)) 1 385 (Gl w os) (piecesOf (c9 35 1) dz cT ⟨326,0,377,30⟩ fB)=some (.next,Gm w os,cT,⟨378,0,411,24⟩):=by
 rw [bj]
 kernel_rfl
theorem yx (w:World) (os:OsState):segRunT treeTable pw w 50 (some (.ref 6)) 1 403 (Gm w os) (piecesOf (c9 36 6) dz cT ⟨378,0,411,24⟩ fB)=some (.next,Gn w os,cT,⟨478,0,478,8⟩):=by
 rw [bj]
 kernel_rfl
theorem yy (w:World) (os:OsState):segRunT treeTable pw w 50 (some (.ref 6)) 1 350 (Gn w os) (piecesOf (c9 42 2) dz cT ⟨478,0,478,8⟩ fB)=some (.next,Go w os,cT,⟨504,0,504,8⟩):=by
 rw [bj]
 kernel_rfl
theorem yz (w:World) (os:OsState):segRunT treeTable pw w 50 (some (.ref 6)) 1 1325 (Go w os) (piecesOf (c9 44 1) dz cT ⟨504,0,504,8⟩ fB)=some (.next,Gp w os,cT,⟨505,0,698,36⟩):=by
 rw [bj]
 kernel_rfl
theorem yA (w:World) (os:OsState):segRunT treeTable pw w 50 (some (.ref 6)) 1 88 (Gp w os) (piecesOf (c9 45 4) dz cT ⟨505,0,698,36⟩ fB)=some (.next,Bi w os,cT,⟨714,0,726,99⟩):=by
 rw [bj]
 kernel_rfl
theorem DD (w:World):(fencedOpening treeTable pw w 20000).map (fun s=>(s.heap,s.gens,s.drawn,s.toks))=some (absHeap (T0 w.params) 50 life,⟨[]⟩,bD,(S0 w (start (opening pw)).1.os).toks):=by
 unfold fencedOpening
 rw [Fast.te10274390034422433532,Fast.te14364793385576792824,Fast.te1435165496053646825,Fast.te14289696077712309145]
 kernel_rfl
theorem Gq (w:World) (os:OsState):topGo treeTable pw w 50 (some (.ref 6)) 12 (S0 w os).abs (topStub pw)=some ((S1 w os).abs,⟨denote treeTable cT,cT,⟨0,0,0,0⟩,fB⟩):=by
 rw [Fast.te15667345088766844465,Fast.te11892475500146522536,Fast.te14364793385576792824]
 kernel_rfl
theorem Bv (w:World) (os:OsState):segRun treeTable pw w 50 (some (.ref 6)) 1 1 (S1 w os).abs (blockOf (behindTheImports pw) dz cT ⟨0,0,0,0⟩ fB)=some (.next,(S1 w os).abs,cT,⟨0,0,0,0⟩):=by
 rw [Fast.te14374325043358763698,Fast.te14364793385576792824]
 unfold blockOf
 rw [Fast.te1066825118222455980]
 kernel_rfl
theorem Gr (w:World) (os:OsState):topRun treeTable pw w 50 (some (.ref 6)) 2 (Bi w os).abs ⟨doneF .next,cT,⟨714,0,726,99⟩,fB⟩=some (Bi w os).abs:=by
 rw [Fast.te14082659384304107361,Fast.te14364793385576792824]
 kernel_rfl
theorem Gs:behindTheImports pw=c9 2 6++(c9 8 7++(c9 15 2++(c9 17 2++(c9 19 2++(c9 21 1++(c9 22 1++(c9 23 1++(c9 24 2++(c9 26 1++(c9 27 1++(c9 28 5++(c9 33 1++(c9 34 1++(c9 35 1++(c9 36 6++(c9 42 2++(c9 44 1++(c9 45 4++[])))))))))))))))))):=by kernel_rfl
theorem Gt (w:World) (os:OsState):topRun treeTable pw w 50 (some (.ref 6)) (12+(1+(595+(547+(364+(403+(441+(956+(58+(596+(518+(641+(645+(565+(191+(487+(385+(403+(350+(1325+(88+2))))))))))))))))))))) (S0 w os).abs (topStub pw)=some (Bi w os).abs:=by
 refine go_top (Gq w os) (piece_block (Bv w os) ?_)
 rw [Gs]
 exact (piece_app (segRun_of (Bj w os)) (piece_app (segRun_of (Bk w os)) (piece_app (segRun_of (Bl w os)) (piece_app (segRun_of (Bm w os)) (piece_app (segRun_of (Bn w os)) (piece_app (segRun_of (Bp w os)) (piece_app (segRun_of (Bq w os)) (piece_app (segRun_of (Br w os)) (piece_app (segRun_of (Bt w os)) (piece_app (segRun_of (Bu w os)) (piece_app (segRun_of (yr w os)) (piece_app (segRun_of (yt w os)) (piece_app (segRun_of (yu w os)) (piece_app (segRun_of (yv w os)) (piece_app (segRun_of (yw w os)) (piece_app (segRun_of (yx w os)) (piece_app (segRun_of (yy w os)) (piece_app (segRun_of (yz w os)) (piece_app (segRun_of (yA w os)) (piece_nil (Gr w os)))))))))))))))))))))
def DE:Nat:=48
noncomputable def qv:Program:={pw with main:={pw.main with body:=[st DE]}}
noncomputable def j9 (w:World):Heap:=absHeap (qx w.params) 1113 life
noncomputable def Yf (s:Shared):Heap×Nat:=(s.heap,s.toks)
noncomputable def Ya (w:World):Heap×Nat:=(j9 w,1783)
theorem DF (w:World):(((fun P=>absHeap (T0 P) 50 life) w.params).isNs mainGlobals&&(⟨[]⟩:Array GenState).size==0,((fun P=>absHeap (T0 P) 50 life) w.params).objs.size,((fun P=>absHeap (T0 P) 50 life) w.params).nsMap mainGlobals "__annotations__")=(true,50,some (.ref 6)):=by
 rw [Fast.te8920871248978507458]
 kernel_rfl
theorem DG (w:World) (os:OsState):(staticsOk (importedModules pw.main.body) (absHeap (T0 w.params) 50 life) (j9 w)&&namesBound pw (j9 w)&&gensDone ⟨j9 w,⟨[]⟩,bD,1783,os⟩&&laidKept (absHeap (T0 w.params) 50 life) (j9 w))=true:=by
 kernel_rfl
theorem DH (w:World) (os:OsState):openSeen qv jj (importedModules pw.main.body) (fun _=>true) true ⟨j9 w,⟨[]⟩,bD,1783,os⟩=openGood qv jj:=by
 rw [Fast.te4187177175401517315]
 kernel_rfl
theorem DI:LeftO pw qv jj (fun _=>true) Yf Ya 20000:=
 LeftO.of_pieces (H₀:=fun P=>absHeap (T0 P) 50 life) (H₁:=fun P=>absHeap (qx P) 1113 life) DD DF Gt (by decide) fun w=>funext fun os=>Prod.ext (DG w os) (Prod.ext (DH w os) rfl)
end
end
end
noncomputable def W2 (w:World) (b1 b2:Bool):World:=⟨w.draws,{w.params with followText:=fun s=>@Bool.rec (fun _=>Bool) (@Bool.rec (fun _=>Bool) (w.params.followText s) b2 (s=="comprehension-iter-twice")) b1 (s=="special-get-raises")}⟩
theorem yB (w:World):W2 w (w.params.followText "special-get-raises") (w.params.followText "comprehension-iter-twice")=w:=by
 obtain ⟨dr,P⟩:=w
 unfold W2
 congr 1
 have h:(fun s=>@Bool.rec (fun _=>Bool) (@Bool.rec (fun _=>Bool) (P.followText s) (P.followText "comprehension-iter-twice") (s=="comprehension-iter-twice")) (P.followText "special-get-raises") (s=="special-get-raises"))=P.followText:=by
  funext s
  cases h1:s=="special-get-raises" with
  | true=>rw [eq_of_beq h1]
  | false=>
   cases h2:s=="comprehension-iter-twice" with
   | true=>rw [eq_of_beq h2]
   | false=>rfl
 simp only [h]
noncomputable def E2 (w:World):En:=⟨pw,w,qx w.params,[975],AllBare,true,none,v9⟩
noncomputable def cnt (d:Nat) (es:Array DictEntry) (ep:Nat):Obj:=⟨.ref 1093,some d,.dict es ep,#[]⟩
noncomputable def aA:Obj:=⟨.type "dict",none,.dict #[] 0,#[]⟩
noncomputable def eM (es:Array DictEntry) (ep:Nat):Obj:=⟨.type "dict",none,.dict es ep,#[]⟩
noncomputable def fdOf (w:World) (a:Nat):FuncData:=match (qx w.params).get a with | some o=>(match o.data with | .func fd=>fd | _=>default) | none=>default
noncomputable def bU (fd:FuncData):List Stmt:=match fd.body with | .stmts l=>l | _=>[]
noncomputable def envOf (w:World) (f l:Nat):Env:={scope:=(fdOf w f).scope,locals:=l,globals:=3,qual:=(fdOf w f).qualname++".<locals>.",code:=(fdOf w f).code,func:=some f,frame:=some l,cells:=(fdOf w f).closure,builtins:=0}
noncomputable def au (w:World) (f k:Nat):Stmt:=(bU (fdOf w f)).getD k (.Pass ⟨0,0,0,0⟩)
noncomputable def me:Stmt->Expr | .For t _ _ _ _=>t | _=>default
noncomputable def mf:Stmt->List Stmt | .For _ _ b _ _=>b | _=>[]
noncomputable def yC:Stmt->List Stmt | .For _ _ _ e _=>e | _=>[]
noncomputable def b8 (s:Stmt) (it:Nat) (env:Env):Code:=.forLoop (me s) (.ref it) (mf s) (yC s) env
noncomputable def cK (w:World) (f k i:Nat):Stmt:=(mf (au w f k)).getD i (.Pass ⟨0,0,0,0⟩)
noncomputable def aa (w:World) (x:Str) (t:Tok) (v:Value):DictEntry:=⟨PyData.keyHash w.params x,.str x t,v⟩
noncomputable def aL (es:List DictEntry) (ep:Nat):Obj:=⟨.type "frame",none,.dict es.toArray ep,#[]⟩
noncomputable def nm (l:List Nat):Str:=⟨⟨l⟩⟩
noncomputable def aY:Str:=sZ 0x666c6573
noncomputable def de:Str:=sZ 0x726568746f
noncomputable def bk:Str:=sZ 0x6d656c65
noncomputable def cb:Str:=sZ 0x746e756f63
noncomputable def cf:Str:=sZ 0x656c626172657469
noncomputable def dD:Str:=sZ 0x747069726373
noncomputable def bL:Str:=sZ 0x676162
noncomputable def dQ:Str:=sZ 0x72696170
noncomputable abbrev Pw (w:World) (b1 b2:Bool) (d:Drawn) (os:OsState) (K:Nat) (Γ:Ctx) (t:Sem Fin) (m:Mm) (n tk:Nat) (T:TE (E2 (W2 w b1 b2)) d os PE):Prop:=eJ.ok ⟨E2 (W2 w b1 b2),K,Γ,t,m,n,tk,T⟩
section
variable (w:World) (b1 b2 c:Bool) (d:Drawn) (os:OsState)
noncomputable def Qb (P:Bool->Bool->eJ d os):Prop:=(P b1 b2).ok
noncomputable def Qc (P:Bool->Bool->Bool->eJ d os):Prop:=(P b1 b2 c).ok
variable {d os} in
noncomputable def bW (P:World->eJ d os) (b1 b2:Bool):eJ d os:=P (W2 w b1 b2)
variable {d os} in
noncomputable def bV (P:World->Bool->eJ d os) (b1 b2 c:Bool):eJ d os:=P (W2 w b1 b2) c
noncomputable abbrev Qw (P:World->eJ d os):Prop:=Qb b1 b2 d os (bW w P)
noncomputable abbrev Qv (P:World->Bool->eJ d os):Prop:=Qc b1 b2 c d os (bV w P)
variable {d os} (P:Bool->Bool->eJ d os) (P1:Bool->Bool->Bool->eJ d os) (f0:Nat) (iU:List Nat) (iV:List (List Nat)) (n0:List Nat) (f1:Nat) (ow:List Nat) (u7:List (List Nat)) (n1:List Nat)
noncomputable def lB:=Ba (fun b=>P b b2) f0 iU iV n0
noncomputable def rB:=Bb (fun b=>P b b2) f0 iU iV n0
noncomputable def lC:=FJ (fun c b=>P1 b b2 c) f0 iU iV n0
noncomputable def rC:=FK (fun c b=>P1 b b2 c) f0 iU iV n0
variable {b1 b2 c P P1}
theorem ee (H:lB b2 P f0 iU iV n0=rB b2 P f0 iU iV n0) (gJ:∀ x y,(P x y).E.nb=true:=by intros;rfl):Qb b1 b2 d os P:=Dw (P:=fun b=>P b b2) f0 iU iV n0 H (fun _=>gJ _ _) b1
theorem DJ (H:lC b2 P1 f0 iU iV n0=rC b2 P1 f0 iU iV n0) (gJ:∀ x y c,(P1 x y c).E.nb=true:=by intros;rfl):Qc b1 b2 c d os P1:=Iv (P:=fun c b=>P1 b b2 c) f0 iU iV n0 H (fun _ _=>gJ _ _ _) c b1
theorem bE (H:(lB false P f0 iU iV n0,lB true P f1 ow u7 n1)=(rB false P f0 iU iV n0,rB true P f1 ow u7 n1)) (gJ:∀ x y,(P x y).E.nb=true:=by intros;rfl):Qb b1 b2 d os P:=by
 obtain ⟨h1,h2⟩:=Prod.ext_iff.mp H
 cases b2
 ·exact ee f0 iU iV n0 h1 gJ
 ·exact ee f1 ow u7 n1 h2 gJ
theorem Gu (H:(lC false P1 f0 iU iV n0,lC true P1 f1 ow u7 n1)=(rC false P1 f0 iU iV n0,rC true P1 f1 ow u7 n1)) (gJ:∀ x y c,(P1 x y c).E.nb=true:=by intros;rfl):Qc b1 b2 c d os P1:=by
 obtain ⟨h1,h2⟩:=Prod.ext_iff.mp H
 cases b2
 ·exact DJ f0 iU iV n0 h1 gJ
 ·exact DJ f1 ow u7 n1 h2 gJ
end
section
variable {N dd di ep i ii n tk:Nat}{acc it ok ov v:Value}{es:Array DictEntry}{g:Array GenState}{h:Heap}{m:Mm}{od:Obj}{p:Pos}{Γ:Ctx}
noncomputable def gx (e gq : Expr) (g : Comprehension) (it acc v : Value) (env : Env) : Sem Fin :=
  (do assign g.target env v
      let mut ok := true
      for c in g.ifs do
        if ok then ok <- isTrue c env (eval c env)
      if ok then
        (do let _ <- call (.builtin "list.append") [acc, <- eval gq env]
            pure () : Sem Unit)
        again (.compLoop e 0 it acc env)
      else again (.compLoop e 0 it acc env) : Sem Fin).onRaise (fun x => do noteFrame x env; theTreesLotGoes x)
theorem ox {M:Model}{e gq:Expr}{g:Comprehension}{env:Env}{Q:Fin->Pos->Shared->Prop}{E:Value->Pos->Shared->Prop}{s:Shared}
  (h:wp M Γ (letOwnedTupleGo g.target it v) (fun _ p s=>wp M Γ (gx e gq g it acc v env) Q E p s) (fun _ _ _=>False) p s):
  wp M Γ (gn e gq g it acc v env) Q E p s:=by
 unfold gn
 unfold gx at h
 simp only [Sem.wp_onRaise,Sem.wp_bind'] at h ⊢
 exact Sem.wp_mono M Γ _ (fun _ p' s' h=>h) (fun _ _ _ h=>h.elim) _ _ h
noncomputable def jk (e gq:Expr) (g:Comprehension) (it acc v:Value) (env:Env):Sem Fin:=
 R.onRaiseR (R.bindR (Fast.tw17772580674575903948 g.target env v) fun _=>R.bindR (iJ env g.ifs true) fun ok=>
   @Bool.rec (fun _=>Sem Fin) (.pure (.again (.compLoop e 0 it acc env))) (R.bindR (Fast.tw14044960220447912780 gq env) fun x=>R.bindR (Fast.tw11478286150595567475 (.builtin "list.append") [acc,x] []) fun _=>.pure (.again (.compLoop e 0 it acc env))) ok)
  fun x=>R.bindR (Fast.tw17872113653443481271 x env) fun _=>Fast.tw1623429502029203251 x
theorem nh {M:Model}{e gq:Expr}{g:Comprehension}{env:Env}{Q:Fin->Pos->Shared->Prop}{E:Value->Pos->Shared->Prop}{s:Shared}
  (h:wp M Γ (jk e gq g it acc v env) Q E p s):wp M Γ (gx e gq g it acc v env) Q E p s:=by
 unfold jk at h
 rw [<- R.bindR_eq,<- R.onRaiseR_eq,<- Fast.te17772580674575903948,<- Fast.te14044960220447912780,<- Fast.te11478286150595567475,<- Fast.te17872113653443481271,<- Fast.te1623429502029203251] at h
 unfold gx
 rw [Sem.wp_onRaise] at h ⊢
 have b (α β:Type) (m:Sem α) (f:α->Sem β):m.bind f=m>>=f:=rfl
 simp only [b,Sem.wp_bind'] at h ⊢
 refine Sem.wp_mono M Γ _ (fun _ p' s' h=>?_) (fun _ _ _ h=>h) _ _ h
 refine n9 _ _ _ _ _ ?_
 rw [jC]
 refine Sem.wp_mono M Γ _ (fun ok p' s' h=>?_) (fun _ _ _ h=>h) _ _ h
 cases ok with
 | true=>
  simp only [Sem.wp_bind',if_true] at h ⊢
  exact h
 | false=>exact h
noncomputable def aW:Stmt->Expr | .Assign _ v _=>v | _=>default
noncomputable def oy:Expr->Expr | .ListComp e _ _ _=>e | _=>default
noncomputable def dA:Expr->Comprehension | .ListComp _ gs _ _=>gs.getD 0 default | _=>default
noncomputable def kP:Expr->Scope | .ListComp _ _ sc _=>sc | _=>default
noncomputable def yD:Expr->Pos | .ListComp _ _ _ p=>p | _=>default
noncomputable def ka (e:Expr):Expr:=.ListComp (oy e) [dA e] (kP e) (yD e)
noncomputable def dn (e:Expr) (env:Env) (Jb:Nat):Env:={scope:=kP e,locals:=Jb,globals:=env.globals,cells:=[],qual:=env.qual,func:=none,code:=env.code,frame:=env.frame,builtins:=env.builtins}
noncomputable def dE (e:Expr) (it acc:Nat) (env:Env):Code:=.compLoop (ka e) 0 (.ref it) (.ref acc) env
noncomputable def mh (e:Expr) (it acc:Nat) (v:Value) (env:Env):Sem Fin:=jk (ka e) (oy e) (dA e) (.ref it) (.ref acc) v env
section
variable {E:En}{V:Heap}{U:Nat}{d:Drawn}{os:OsState}
theorem oz {ex:Expr}{env:Env}{R:Result->Shared->Prop}{acc:Nat}{it:Nat}{e:DictEntry}
  (aF:Γ.code=dE ex it acc env) (Dx:ol (dA ex).target) (ha:((dA ex).is_async != 0)=false) (hg:E.G g) (hr:Rep E V U m n h) (h1:Y m ii=some (it,c8 dd i N ep .none ok ov)) (h2:Y m di=some (dd,od)) (hd:od.data=.dict es ep) (hN:es.size=N)
  (hx:es[i]?=some e)
  (w:∀ p,Well E V U R d os ⟨Γ,p,[],mh ex it acc (.ref n) env,bh (aK m ii (c8 dd (i+1) N ep .none e.key e.val)) (n,bb e.key e.val),n+1,tk⟩) (p:Pos):
  wpCode (Mo E) Γ R p ⟨h,g,d,tk,os⟩:=by
 refine (wpCode_iff_wp _ _ _ _ _).mpr ?_
 rw [aF]
 refine pv ha rfl ?_
 have hit:IsItemIter h it dd i N ep ok ov:=hr.own _ _ _ h1
 have cZ:=hr.own _ _ _ h2
 refine Sem.wp_mono (Mo E) Γ _ (fun a p' s' h'=>?_) (fun e p' s' h'=>h') _ _ (aR (Q:=fun o s'=>o=some (.ref h.objs.size)/\∀ p,wp (Mo E) Γ (gn (ka ex) (oy ex) (dA ex) (.ref it) (.ref acc) (.ref h.objs.size) env) (finPost (Mo E) Γ R) (fun e _ s'=>R (.error e) s') p s') (E:=fun _ _=>False) ?_ _)
 ·obtain ⟨rfl,h'⟩:=h';exact h' p'
 refine eU hit cZ hd hN hx fun h' he Jc hs same=>⟨rfl,fun p=>?_⟩
 refine ox ?_
 refine Sem.wp_mono _ _ _ (fun a p' s' h'=>h' p') (fun e p' s' h'=>h') _ _ (aR (Q:=fun _ s'=>∀ p,wp (Mo E) Γ (gx (ka ex) (oy ex) (dA ex) (.ref it) (.ref acc) (.ref h.objs.size) env) (finPost (Mo E) Γ R) (fun e _ s'=>R (.error e) s') p s') (E:=fun _ _=>False) ?_ p)
 rw [Dx _ _]
 refine wpAny_letOwnedTupleGo_items (he:IsItemIterOut h' it dd (i+1) N ep e.key e.val h.objs.size) fun h2 nc k9 p=>?_
 rw [hr.size] at *
 have r1:Rep E V U (aK m ii (c8 dd (i+1) N ep .none e.key e.val)) (n+1) h2:=by
  refine hr.chg h1 nc (k9.1.trans hs) (Nat.le_succ _) fun b x hb hx=>(k9.2 b hb).trans (same b x hb hx)
 have wg:n≠it:=fun q=>Nat.lt_irrefl _ (q▸hr.lt h1)
 have r2:=r1.know (b:=n) (o:=bb e.key e.val) ((k9.2 n wg).trans Jc) hr.start (fun i o' q=>by
  rw [bN] at q
  split at q
  ·rw [h1] at q;cases q;exact wg rfl
  ·exact Nat.lt_irrefl _ (hr.lt q)) (hr.lowT n (Nat.le_refl _))
 exact nh (w p h2 g hg r2)
theorem qy {ex:Expr}{env:Env}{R:Result->Shared->Prop}{acc:Nat}{it:Nat}
  (aF:Γ.code=dE ex it acc env) (ha:((dA ex).is_async != 0)=false) (hh:Γ.handled=none) (hg:E.G g) (hr:Rep E V U m n h) (h1:Y m ii=some (it,c8 dd i N ep .none ok ov)) (h2:Y m di=some (dd,od)) (hd:od.data=.dict es ep) (hN:es.size=N) (hx:N<=i)
  (fin:∀ h' n' o',n<=n'->Rep E V U (aK m ii o') n' h'->R (.ok .next) ⟨h',g,d,tk,os⟩) (p:Pos):wpCode (Mo E) Γ R p ⟨h,g,d,tk,os⟩:=by
 refine (wpCode_iff_wp _ _ _ _ _).mpr ?_
 rw [aF]
 refine pv ha rfl ?_
 have hit:IsItemIter h it dd i N ep ok ov:=hr.own _ _ _ h1
 have cZ:=hr.own _ _ _ h2
 refine Sem.wp_mono (Mo E) Γ _ (fun a p' s' h'=>?_) (fun e p' s' h'=>h'.elim) _ _ (aR (Q:=fun o s'=>o=none/\R (.ok .next) s') (E:=fun _ _=>False)
  (gV (A:=fb Γ) hh hit cZ hd hN hx fun h' o' oj he hs=>⟨rfl,fin h' h'.objs.size o' (hr.size▸hs) (hr.chg h1 oj rfl (hr.size▸hs) fun b x hb hx=>he b x hb hx)⟩) _)
 obtain ⟨rfl,h'⟩:=h'
 exact h'
end
end
theorem bH (w:World) (dc rp:Nat) (rs:Array DictEntry):ip (E2 w) (cnt dc rs rp):=.inr ⟨1093,rfl,by kernel_rfl,rfl⟩
section
variable {E:En}{d:Drawn}{os:OsState}
end
noncomputable def CZ (n:Int) (t u v:Nat):Obj:=⟨.type "range",none,.fields #[.int 0 t,.int n u,.int 1 v],#[]⟩
theorem yE (n:Int) (hn:0<=n):Builtin.Range.rangeSize 0 n 1=n:=by
 unfold Builtin.Range.rangeSize
 rw [if_pos (by decide)]
 by_cases h:(0:Int) < n
 ·rw [if_pos h];lia
 ·rw [if_neg h];lia
theorem u8 (n:Int) (hn:0<=n) (Bw:n<=1000):(Builtin.Range.rangeFitsLong 0&&Builtin.Range.rangeFitsLong n&&Builtin.Range.rangeFitsLong 1&&Builtin.Range.rangeFitsLong n&&
  (n==0||if (1:Int)>0 then Builtin.Range.rangeFitsLong (n+(1 - 1)) else Builtin.Range.rangeFitsLong (n+(1+1))))=true:=by
 have h1:Builtin.Range.rangeFitsLong n=true:=by unfold Builtin.Range.rangeFitsLong;simp;lia
 have h2:Builtin.Range.rangeFitsLong (n+(1 - 1))=true:=by unfold Builtin.Range.rangeFitsLong;simp;lia
 rw [h1,if_pos (by decide),h2]
 have h3:Builtin.Range.rangeFitsLong 0=true:=by unfold Builtin.Range.rangeFitsLong;decide
 have h4:Builtin.Range.rangeFitsLong 1=true:=by unfold Builtin.Range.rangeFitsLong;decide
 rw [h3,h4];simp
theorem ni {E:En}{A:Around}{X:Value->Shared->Prop}{s:Shared}{r:Addr}{n:Int}{t u v:Nat}{Q:PySem.Fin->Shared->Prop}(hl:s.heap.get? r=some (CZ n t u v)) (hn:0<=n) (Bw:n<=1000)
  (h:Q (.done (.ret (.ref s.heap.objs.size))) {s with heap:=s.heap.push (dy 0 n 1)}):wpAny (Mo E) A (Builtin.«range.__iter__» ⟨[.ref r],[]⟩) Q X s:=by
 have hs:=yE n hn
 have hm:=u8 n hn Bw
 unfold Builtin.«range.__iter__» Builtin.Range.rangeFields
 refine wpAny_bind (wpAny_pure ?_)
 dsimp only
 refine wpAny_bind (wpAny_bind (wpAny_field hl rfl (x:=.int 0 t) rfl (wpAny_bind (wpAny_pure (wpAny_bind (wpAny_field hl rfl (x:=.int n u) rfl (wpAny_bind (wpAny_pure (wpAny_bind (wpAny_field hl rfl (x:=.int 1 v) rfl (wpAny_bind (wpAny_pure ?_))))))))))))
 refine wpAny_pure ?_
 dsimp only
 rw [hs,hm]
 simp only [Bool.not_true,Bool.false_eq_true,if_false,if_true]
 refine wpAny_bind ?_
 unfold newFields
 exact wpAny_newObj_type (wpAny_pure h) (by size_fits)
section
variable {E:En}{d:Drawn}{os:OsState}
noncomputable def u9 (i r:Nat) (n:Int) (t u v:Nat) (hn:0<=n) (Bw:n<=1000):ay E d os:=
 ay.leaf Unit () (fun q=>(bG q.code,Y q.m i)) (some ("range.__iter__",[.ref r]),some (r,CZ n t u v)) (fun _ q=>.ref q.n) (fun _ q=>bh q.m (q.n,dy 0 n 1)) (fun _ q=>q.n+1) (fun _ q=>q.tk) (fun _=>True) (by
  intro V U q Q h g e' hc hg hr kk
  simp only [Prod.mk.injEq] at e'
  obtain ⟨e1,e2⟩:=e'
  refine am (hc.trans (gM e1)) F.entry_range_iter ?_
  refine Sem.wp_mono _ _ _ (fun a p' s' h'=>?_) (fun e p' s' h'=>h'.elim) _ _ (aR (Q:=fun f s'=>∃ v,f=.done (.ret v)/\Q (.ok (.ret v)) s') (E:=fun _ _=>False)
   (ni (hr.own _ _ _ e2) hn Bw ⟨_,rfl,by
    have z:=kk () trivial _ g hg (hr.push (o:=dy 0 n 1) rfl)
    rw [<- hr.size] at z
    exact z⟩) _)
  obtain ⟨v,rfl,h'⟩:=h'
  exact h')
noncomputable def yF (i:Nat) (l ep:Nat) (xs:Array Value) (hx:xs.size<=1000):ay E d os:=
 ay.leaf Unit () (fun q=>(bG q.code,Y q.m i)) (some ("len",[.ref l]),some (l,ad xs ep)) (fun _ q=>.int (Int.ofNat xs.size) (q.tk+1)) (fun _ q=>q.m) (fun _ q=>q.n) (fun _ q=>q.tk+2) (fun _=>True) (by
  intro V U q Q h g e' hc hg hr kk
  simp only [Prod.mk.injEq] at e'
  obtain ⟨e1,e2⟩:=e'
  refine am (hc.trans (gM e1)) entry_len ?_
  refine Sem.wp_mono _ _ _ (fun a p' s' h'=>?_) (fun e p' s' h'=>h'.elim) _ _ (aR (Q:=fun f s'=>∃ v,f=.done (.ret v)/\Q (.ok (.ret v)) s') (E:=fun _ _=>False)
   (wpAny_len_body_list (l:=l) (items:=xs) (Q:=fun v s'=>Q (.ok (.ret v)) s') ⟨_,hr.own _ _ _ e2,rfl,ep,rfl⟩ (by lia) (kk () trivial h g hg hr)) _)
  obtain ⟨v,rfl,h'⟩:=h'
  exact h')
end
theorem oC {E:En}{A:Around}{X:Value->Shared->Prop}{s:Shared}{l e:Nat}{xs:Array Value}{k:Int}{t:Tok}{x:Value}{Q:PySem.Fin->Shared->Prop}(ho:s.heap.get? l=some (ad xs e))
  (h0:0<=k) (C0:k < 2 ^ 63) (hx:xs[k.toNat]?=some x) (h:Q (.done (.ret x)) s):wpAny (Mo E) A (Builtin.«list.__getitem__» ⟨[.ref l,.int k t],[]⟩) Q X s:=by
 show wpAny _ _ (Builtin.List.listSubscript? (.int k t)>>=_) _ _ s
 refine wpAny_bind (wpAny_listSubscript_int (fitsIndex_of h0 C0) ?_)
 clear C0
 obtain ⟨j,rfl⟩:=Int.eq_ofNat_of_zero_le h0
 have r6:xs[j]?=some x:=hx
 show wpAny _ _ ((seqItemAt l j>>=fun r=>pure (r.map (j,·)))>>=_) _ _ s
 refine wpAny_bind (wpAny_bind (wpAny_seqItemAt ho rfl (wpAny_pure ?_)))
 rw [r6]
 first
  | exact wpAny_bind (wpAny_pure (wpAny_pure h))
  | exact wpAny_pure h
  | exact wpAny_bind (wpAny_pure h)
section
variable {E:En}{d:Drawn}{os:OsState}
noncomputable def qz (i l ep:Nat) (xs:Array Value) (k:Int) (v:Value) (h0:0<=k) (h1:k < 64) (hx:xs[k.toNat]?=some v):ay E d os:=
 ay.leaf Unit () (fun q=>(bG q.code,Y q.m i)) (some ("list.__getitem__",[.ref l,.int k 0]),some (l,ad xs ep)) (fun _ q=>v) (fun _ q=>q.m) (fun _ q=>q.n) (fun _ q=>q.tk) (fun _=>True) (by
  intro V U q Q h g e hc hg hr kk
  obtain ⟨e1,e2⟩:=Prod.ext_iff.mp e
  obtain ⟨pos,e3,e4⟩:=b7 e1
  obtain ⟨x,y,rfl,h2,h3⟩:=map_two e4
  obtain rfl:=bw h2
  obtain ⟨u,rfl⟩:=aO h3
  refine am (hc.trans e3) entry_list_getitem ?_
  refine Sem.wp_mono _ _ _ (fun a p' s' h'=>?_) (fun e p' s' h'=>h'.elim) _ _ (aR (Q:=fun f s'=>∃ v,f=.done (.ret v)/\Q (.ok (.ret v)) s') (E:=fun _ _=>False)
   (oC (hr.own _ _ _ e2) h0 (by lia) hx ⟨_,rfl,kk () trivial h g hg hr⟩) _)
  obtain ⟨v,rfl,h'⟩:=h'
  exact h')
end
section
variable {E:En}{V:Heap}{U:Nat}{d:Drawn}{os:OsState}
noncomputable abbrev C1 (e:Expr):Prop:=∀ it v,letOwnedTupleGo e it v=pure ()
theorem va {Γ:Ctx}{target:Expr}{body ba:List Stmt}{env:Env}{R:Result->Shared->Prop}{m:Mm}{n tk:Nat}{h:Heap}{g:Array GenState}{ii it:Nat}{x left:Int}
  (ht:C1 target) (aF:Γ.code=.forLoop target (.ref it) body ba env) (hg:E.G g) (hr:Rep E V U m n h) (h1:Y m ii=some (it,dy x left 1)) (hl:0 < left)
  (w:∀ p,Well E V U R d os ⟨Γ,p,[],gm target (.ref it) (.int x tk) body ba env,aK m ii (dy (x+1) (left - 1) 1),n,tk+1⟩) (p:Pos):
  wpCode (Mo E) Γ R p ⟨h,g,d,tk,os⟩:=by
 refine (wpCode_iff_wp _ _ _ _ _).mpr ?_
 rw [aF]
 refine n8 ?_
 refine Sem.wp_mono (Mo E) Γ _ (fun a p' s' h'=>?_) (fun e p' s' h'=>h') _ _ (aR (Q:=fun o s'=>o=some (.int x tk)/\∀ p,wp (Mo E) Γ (gj target (.ref it) (.int x tk) body ba env) (finPost (Mo E) Γ R) (fun e _ s'=>R (.error e) s') p s') (E:=fun _ _=>False) ?_ _)
 ·obtain ⟨rfl,h'⟩:=h';exact h' p'
 have hit:IsRangeIter h it x left 1:=hr.own _ _ _ h1
 refine wpAny_pyNext_range_item hit hl fun h' he hs=>⟨rfl,fun p=>?_⟩
 refine kG ?_
 rw [ht _ _]
 have r1:Rep E V U (aK m ii (dy (x+1) (left - 1) 1)) n h':=
  hr.chg h1 he (hs.1.trans hr.size) (Nat.le_refl _) fun b x hb hx=>(hs.2 b hb).trans hx
 have z:=w p h' g hg r1
 rw [cO] at z
 rw [<- gK] at z
 exact z
end
section
variable {E:En}{V:Heap}{U:Nat}{d:Drawn}{os:OsState}
end
theorem r7 {M:Model}{Γ:Ctx}{p:Pos}{t:Sem PySem.Fin}{fs:List PySem.Frame}{s s':Shared}{e:End}(h:Runs M Γ p t fs s e s'):s.heap.objs.size<=s'.heap.objs.size:=by
 have u:∀ (h:Heap) a f,(h.update a f).objs.size=h.objs.size:=fun h a f=>by simp [Heap.update]
 induction h<;>(try simp only [Shared.setGen,Heap.size_push,u] at *)<;>lia
theorem jm {M:Model}{Γ:Ctx}{R:Result->Shared->Prop}{p:Pos}{s:Shared}(h:wpCode M Γ (fun r s'=>s.heap.objs.size<=s'.heap.objs.size->R r s') p s):wpCode M Γ R p s:=by
 obtain ⟨r,s',hr,hR⟩:=h
 exact ⟨r,s',hr,hR (r7 hr)⟩
theorem jn {M:Model}{Γ:Ctx}{f:Value}{pos:List Value}{c1:Code}{p1:Pos}{l:List (Code×Pos)}{R:Result->Shared->Prop}{p:Pos}{s:Shared}(aF:Γ=⟨.call f ⟨pos,[]⟩,none,none,(c1,p1)::l,none⟩)
  (h:wpAny M (fb ⟨c1,none,none,l,none⟩) (call f pos) (fun v s'=>R (.ok (.ret v)) s') (fun e s'=>R (.error e) s') s) (hp:p=p1):wpCode M Γ R p s:=by
 subst aF hp
 have z:=h ⟨c1,none,none,l,none⟩ p (lU _)
 unfold call runValue at z
 obtain ⟨r,s',hr,hR⟩:=z
 refine ⟨r,s',hr,?_⟩
 match r,hR with
 | .ok (.ret v),hR=>exact hR
 | .error e,hR=>exact hR
noncomputable def mi (c:Code):Option (Value×List Value):=match c with
 | .call f a=>match a with
  | ⟨pos,[]⟩=>some (a9 f,pos.map a9)
  | _=>none
 | _=>none
noncomputable def qA (q:Ask):Option Value×Option Value×Option Value×Bool:=(q.Γ.handled,q.Γ.own,q.Γ.past,match q.Γ.below with
 | (_,p)::_=>decide (p=q.p)
 | []=>false)
theorem mj {q:Ask}(h:qA q=(none,none,none,true)):∃ c1 l,q.Γ=⟨q.Γ.code,none,none,(c1,q.p)::l,none⟩:=by
 obtain ⟨⟨c,a,b,l,z⟩,code,p,m,n,tk⟩:=q
 unfold qA at h
 simp only [Prod.mk.injEq] at h
 obtain ⟨rfl,rfl,rfl,h⟩:=h
 cases l with
 | nil=>cases h
 | cons x l=>
  obtain ⟨c1,p1⟩:=x
  have h:decide (p1=p)=true:=h
  have h:=of_decide_eq_true h
  subst h
  exact ⟨c1,l,rfl⟩
theorem kc {c:Code}{f:Value}{l:List Value}(h:mi c=some (f,l)):∃ f' pos,c=.call f' ⟨pos,[]⟩/\a9 f'=f/\pos.map a9=l:=by
 unfold mi at h
 split at h
 ·split at h
  ·injection h with h
   injection h with h1 h2
   exact ⟨_,_,rfl,h1,h2⟩
  ·cases h
 ·cases h
noncomputable def ml (Γ:Ctx):Around:={handled:=Γ.handled,depth:=frameCount Γ.below,units:=unitsOf Γ.below}
theorem fR (Γ:Ctx):Γ.Below (ml Γ):=⟨rfl,Nat.le_refl _,(fun _ h=>nomatch h),(fun _ h=>nomatch h),Nat.le_refl _⟩
theorem cI {prog:Program}{w:World}{Γ:Ctx}{id:String}{args:Args}{b:Builtin}{S:PySem.Spec}{R:Result->Shared->Prop}{p:Pos}{s:Shared}(aF:Γ.code=.builtin id args) (hb:entryFor table id=some b) (pl:plainId id=true) (g:Meets (b args) S) (h:S (ml Γ) R s):wpCode (model prog w) Γ R p s:=
 codeAny_builtin hb (by rw [Around.under_plainId pl];exact g prog w _ R s h) Γ p aF (fR Γ)
structure yG where
 t:Nat
 j:Nat
 tk:Nat
theorem iM (val:Nat->Int) (n:Nat):val (argBest (fun i j=>decide (val i>val j)) (n+1))=max (val (argBest (fun i j=>decide (val i>val j)) n)) (val (n+1)):=by
 show val (if decide (val (n+1)>val (argBest (fun i j=>decide (val i>val j)) n))=true then n+1 else argBest (fun i j=>decide (val i>val j)) n)=_
 generalize argBest (fun i j=>decide (val i>val j)) n=k
 by_cases h:val (n+1)>val k
 ·rw [if_pos (decide_eq_true h)];lia
 ·rw [if_neg (by simpa using h)];lia
theorem Gv (val:Nat->Int):val (argBest (fun i j=>decide (val i>val j)) 3)=max (max (max (val 0) (val 1)) (val 2)) (val 3):=by
 exact (iM val 2).trans (congrArg (max · _) ((iM val 1).trans (congrArg (max · _) (iM val 0))))
theorem Gw (val:Nat->Int):val (argBest (fun i j=>decide (val i>val j)) 4)=max (max (max (max (val 0) (val 1)) (val 2)) (val 3)) (val 4):=by
 exact (iM val 3).trans (congrArg (max · _) (Gv val))
section
variable {E:En}{d:Drawn}{os:OsState}
noncomputable def DK (mx:Bool) (i l e:Nat) (vs:Array Value) (xs:Array (Int×Tok)) (hx:vs=intItems xs) (bx:0 < xs.size) (r:Int)
  (hr:numAt xs (argBest (fun i j=>@Bool.rec (fun _=>Bool) (decide (numAt xs i < numAt xs j)) (decide (numAt xs i>numAt xs j)) mx) (xs.size - 1))=r):ay E d os:=
 ay.leaf yG ⟨0,0,0⟩ (fun q=>(mi q.code,Y q.m i,qA q)) (some (.builtin (@Bool.rec (fun _=>String) "min" "max" mx),[.ref (l+1109)]),some (l+1109,ad vs e),none,none,none,true) (fun x _=>.int r x.t) (fun _ q=>q.m) (fun x _=>x.j+1109) (fun x _=>x.tk) (fun _=>True) (by
  intro V U q Q h g e' hc hg dM kk
  obtain ⟨e1,e'⟩:=Prod.ext_iff.mp e'
  obtain ⟨e2,e3⟩:=Prod.ext_iff.mp e'
  dsimp only at e1 e2 e3
  obtain ⟨f',pos,e4,e5,e6⟩:=kc e1
  obtain ⟨c1,l',qB⟩:=mj e3
  rw [hc.trans e4] at qB
  obtain ⟨x,rfl,r6⟩:∃ x,pos=[x]/\a9 x=.ref (l+1109):=by
   rcases pos with _ | ⟨x,_ | ⟨y,pos⟩⟩
   ·cases e6
   ·injection e6 with e6;exact ⟨x,rfl,e6⟩
   ·injection e6 with _ e6;cases e6
  obtain rfl:=bw r6
  have hf:f'=.builtin (@Bool.rec (fun _=>String) "min" "max" mx):=by
   cases f'<;>first | exact e5 | cases e5
  subst hf
  refine jm ?_
  refine jn qB ?_ rfl
  obtain ⟨j,hj⟩:=bY (i:=i) dM e2
  have hl:h.IsList (l+1109) (intItems xs):=⟨_,dM.own _ _ _ e2,rfl,e,by rw [<- hx];rfl⟩
  have fin:∀ v h' tk,(intItems xs)[argBest (fun i j=>@Bool.rec (fun _=>Bool) (decide (numAt xs i < numAt xs j)) (decide (numAt xs i>numAt xs j)) mx) (xs.size - 1)]?=some v->(∀ b o,h.get? b=some o->h'.get? b=some o)->h.objs.size<=h'.objs.size->Q (.ok (.ret v)) ⟨h',g,d,tk,os⟩:=by
   intro v h' tk hv hk hs
   obtain ⟨t,rfl⟩:=intItems_at hv
   rw [hr]
   have hn:h'.objs.size=(h'.objs.size - 1109)+1109:=by have:=dM.size;lia
   exact kk ⟨t,h'.objs.size - 1109,tk⟩ trivial h' g hg (dM.grow hn (by rw [<- hn,<- dM.size];exact hs) hk)
  cases mx with
  | true=>exact max_intList rfl hl bx fun v h' tk hv hk=>fin v h' tk hv hk
  | false=>exact min_intList rfl hl bx fun v h' tk hv hk=>fin v h' tk hv hk)
end
section
variable {prog:Program}{w:World}{A:Around}{E:Value->Shared->Prop}{s:Shared}
theorem lm {it d a:Addr}{f:Bool}{oa od:Obj}{i n ep:Nat}{es:Array DictEntry}{e:DictEntry}{ok ov:Value}{Q:Option Value->Shared->Prop}(hit:KdxIt s.heap it d i n ep ok ov a f) (ha:s.heap.get? a=some oa) (oF:a≠it)
  (cZ:s.heap.get? d=some od) (bT:od.data=.dict es ep) (ax:es.size=n) (hx:es[i]?=some e)
  (hQ:∀ h',KdxIt h' it d (i+1) n ep ok ov a true->h'.get? s.heap.objs.size=some {cls:=.type "tuple",data:=.seq #[e.key,e.val]}->h'.objs.size=s.heap.objs.size+1->
   (∀ b o,b≠it->s.heap.get? b=some o->h'.get? b=some o)->Q (some (.ref s.heap.objs.size)) {s with heap:=h'}):
  wpAny (model prog w) A (pyNext (.ref it)) Q E s:=by
 obtain ⟨hp,g,dr,tk,os⟩:=s
 have hT:Shared.TypeIs ⟨hp,g,dr,tk,os⟩ (.ref it) "dict_itemiterator":=⟨_,hit,rfl⟩
 unfold pyNext
 refine wpAny_bind (wpAny_attempt (wpAny_callSpecial?_slot (name:=Str.ofString "__next__") hT F.slot_dict_itemiterator_next
  (wpAny_call_entry F.slot_dict_itemiterator_next hT F.entry_dict_itemiterator_next ?_ (F.args_dict_itemiterator_next_1 _))))
 refine wpAny_bind (wpAny_pure ?_)
 refine wpAny_bind ?_
 refine wpAny_bind ?_
 first | refine wpAny_bind (wpAny_typeNameOfWhole_itemiter hT (wpAny_pure ?_)) | refine wpAny_bind (wpAny_typeNameOf_itemiter hT (wpAny_pure ?_))
 refine wpAny_bind (wpAny_fieldsOf hit rfl ?_)
 have dJ:Builtin.Dict_items.ownsTuple "dict_itemiterator"=true:=by decide
 simp only [dJ,if_true]
 show wpAny _ _ (if (Value.ref d==Value.none)=true then _ else _) _ _ _
 rw [if_neg (show ¬ ((Value.ref d==Value.none)=true) from Bool.false_ne_true)]
 refine wpAny_bind (wpAny_pure ?_)
 refine wpAny_bind (wpAny_dictEntries cZ bT ?_)
 rw [if_neg (by rw [ax];simp)]
 refine wpAny_bind (wpAny_pure ?_)
 refine wpAny_bind (wpAny_dictEpoch cZ bT ?_)
 rw [if_neg (by simp)]
 refine wpAny_pure ?_
 simp only [show ¬ ((i:Int) < 0) from by lia,if_false,Int.toNat_natCast,hx]
 refine wpAny_bind ?_
 first | refine wpAny_bind (wpAny_typeNameOfWhole_itemiter hT (wpAny_pure ?_)) | refine wpAny_bind (wpAny_typeNameOf_itemiter hT (wpAny_pure ?_))
 refine wpAny_bind (wpAny_isOneOf_itemiter hT ?_)
 show wpAny _ _ (setField (.ref it) 3 (rawInt ((i:Int)+1))>>=_) _ _ ⟨hp,g,dr,tk,os⟩
 refine wpAny_bind (wpAny_setField_rec hit (by simp) fun h₁ bO bv=>?_)
 replace bv:Heap.SameBut it hp h₁:=bv
 replace bO:KdxIt h₁ it d (i+1) n ep ok ov a f:=by
  have e:((i+1:Nat):Int)=(i:Int)+1:=by lia
  unfold KdxIt;rw [e];simpa [rawInt] using bO
 have fJ:Shared.TypeIs ⟨h₁,g,dr,tk,os⟩ (.ref it) "dict_itemiterator":=⟨_,bO,rfl⟩
 refine wpAny_bind (wpAny_holding ?_)
 refine wpAny_bind (wpAny_isOneOf_itemiter fJ ?_)
 refine wpAny_bind (wpAny_isOneOf_itemiter fJ ?_)
 show wpAny _ _ (Builtin.Dict_items.pairFromOwner (.ref it) 6 e.key e.val) _ _ ⟨h₁,g,dr,tk,os⟩
 unfold Builtin.Dict_items.pairFromOwner
 refine wpAny_bind (wpAny_newTuple ?_)
 have ce:KdxIt (h₁.push {cls:=.type "tuple",data:=.seq #[e.key,e.val]}) it d (i+1) n ep ok ov a f:=Heap.get?_push_of_some _ bO
 generalize eg:h₁.push {cls:=.type "tuple",data:=.seq #[e.key,e.val]}=h₂ at ce
 have ej:h₁.objs.size=hp.objs.size:=bv.1
 have k8:it < hp.objs.size:=Heap.lt_size hit
 have jY:h₂.get? hp.objs.size=some {cls:=.type "tuple",data:=.seq #[e.key,e.val]}:=by rw [<- eg,<- ej];exact Heap.get?_push_size _ rfl
 have jZ:h₂.objs.size=hp.objs.size+1:=by rw [<- eg,Heap.size_push,ej]
 have io:∀ b o,b≠it->hp.get? b=some o->h₂.get? b=some o:=fun b o hb e=>by rw [<- eg];exact Heap.get?_push_of_some _ (bv.extBut b o hb e)
 show wpAny _ _ (Builtin.Dict_items.ownedTupleIsFree (.ref it)>>=_) _ _ ⟨h₂,g,dr,tk,os⟩
 rw [ej]
 clear eg bO bv fJ ej h₁
 have DL:h₂.get? a=some oa:=io a oa oF ha
 refine wpAny_bind ?_
 unfold Builtin.Dict_items.ownedTupleIsFree
 refine wpAny_bind (wpAny_field ce rfl (x:=rawInt a) rfl ?_)
 show wpAny _ _ (loadIfAlive ((a:Int).toNat)>>=_) _ _ _
 rw [Int.toNat_natCast]
 refine wpAny_bind (kdx_alive DL ?_)
 simp only [Option.isNone_some,Bool.false_eq_true,if_false]
 refine wpAny_bind (wpAny_field ce rfl (x:=.bool f) rfl ?_)
 have fin:∀ cQ:Heap,KdxIt cQ it d (i+1) n ep ok ov a true->Heap.SameBut it h₂ cQ->Q (some (.ref hp.objs.size)) ⟨cQ,g,dr,tk,os⟩:=fun cQ dw b9=>
  hQ cQ dw (b9.extBut _ _ (Nat.ne_of_gt k8) jY) (by show cQ.objs.size=hp.objs.size+1;rw [b9.1,jZ]) fun b o hb e=>b9.extBut b o hb (io b o hb e)
 cases f with
 | true=>
  rw [if_neg (show ¬ ((Value.bool true != Value.bool true)=true) from Bool.false_ne_true)]
  refine wpAny_pure ?_
  simp only [Bool.false_eq_true,if_false]
  exact wpAny_pure (wpAny_pure ⟨_,rfl,wpAny_pure (fin h₂ ce (Heap.SameBut.refl _ _))⟩)
 | false=>
  rw [if_pos (show (Value.bool false != Value.bool true)=true from rfl)]
  refine wpAny_bind (wpAny_setField_rec ce (by simp) fun cQ dw b9=>?_)
  replace b9:Heap.SameBut it h₂ cQ:=b9
  replace dw:KdxIt cQ it d (i+1) n ep ok ov a true:=dw
  refine wpAny_pure ?_
  simp only [Bool.false_eq_true,if_false]
  exact wpAny_pure (wpAny_pure ⟨_,rfl,wpAny_pure (fin cQ dw b9)⟩)
theorem ke {it d:Addr}{i n ep:Nat}{od:Obj}{es:Array DictEntry}{o0 f0 ok ov:Value}{Q:Option Value->Shared->Prop}(hh:A.handled=none)
  (hit:s.heap.get? it=some {cls:=.type "dict_itemiterator",dict:=none,data:=.fields #[o0,f0,.ref d,.int i 0,.int n 0,.int ep 0,ok,ov],slots:=#[]})
  (cZ:s.heap.get? d=some od) (bT:od.data=.dict es ep) (ax:es.size=n) (hx:n<=i)
  (hQ:∀ h',Heap.ExtBut it s.heap h'->Q none {s with heap:=h'}):wpAny (model prog w) A (pyNext (.ref it)) Q E s:=by
 have hT:s.TypeIs (.ref it) "dict_itemiterator":=⟨_,hit,rfl⟩
 unfold pyNext
 refine wpAny_bind (wpAny_attempt (wpAny_callSpecial?_slot (name:=Str.ofString "__next__") hT F.slot_dict_itemiterator_next
  (wpAny_call_entry F.slot_dict_itemiterator_next hT F.entry_dict_itemiterator_next ?_ (F.args_dict_itemiterator_next_1 _))))
 refine wpAny_bind (wpAny_pure ?_)
 refine wpAny_bind ?_
 refine wpAny_bind ?_
 first | refine wpAny_bind (wpAny_typeNameOfWhole_itemiter hT (wpAny_pure ?_)) | refine wpAny_bind (wpAny_typeNameOf_itemiter hT (wpAny_pure ?_))
 refine wpAny_bind (wpAny_fieldsOf hit rfl ?_)
 have dJ:Builtin.Dict_items.ownsTuple "dict_itemiterator"=true:=by decide
 simp only [dJ,if_true]
 show wpAny _ _ (if (Value.ref d==Value.none)=true then _ else _) _ _ s
 rw [if_neg (show ¬ ((Value.ref d==Value.none)=true) from Bool.false_ne_true)]
 refine wpAny_bind (wpAny_pure ?_)
 refine wpAny_bind (wpAny_dictEntries cZ bT ?_)
 rw [if_neg (by rw [ax];simp)]
 refine wpAny_bind (wpAny_pure ?_)
 refine wpAny_bind (wpAny_dictEpoch cZ bT ?_)
 rw [if_neg (by simp)]
 refine wpAny_pure ?_
 have rF:es.size<=i:=by rw [ax];exact hx
 simp only [show ¬ ((i:Int) < 0) from by lia,if_false,Int.toNat_natCast,Array.getElem?_eq_none rF]
 refine wpAny_bind ?_
 first | refine wpAny_bind (wpAny_typeNameOfWhole_itemiter hT (wpAny_pure ?_)) | refine wpAny_bind (wpAny_typeNameOf_itemiter hT (wpAny_pure ?_))
 show wpAny _ _ (setField (.ref it) 2 .none>>=_) _ _ s
 refine wpAny_bind (wpAny_setField hit rfl (by simp) ?_)
 show wpAny _ _ (newExc (.type "StopIteration") []>>=_) _ _ _
 refine wpAny_bind ?_
 simp only [newExc,newTuple]
 refine wpAny_bind (wpAny_newObj_type ?_ (by size_fits))
 refine wpAny_bind (m:=firstArgMember _ _) (wpAny_of_eq (a:=Value.none) (by first | rfl | (simp only [firstArgMember];rfl)) ?_)
 refine wpAny_newObj_type ?_ (by size_fits)
 simp only [raiseNew]
 refine wpAny_bind (wpAny_handled ?_)
 rw [show A.in1.handled=none from hh]
 refine wpAny_bind (wpAny_pure (wpAny_throw ?_))
 refine wpAny_bind (wpAny_isInstance (T:="StopIteration") (b:=true) ⟨_,Heap.get?_push_size _ rfl,rfl⟩ isSubtype_stop ?_)
 exact wpAny_pure (hQ _ (((Heap.SameBut.update ..).extBut.push _).push _))
noncomputable def qC (h:Heap) (it d S:Addr) (i n ep:Nat):Prop:=
 (∃ ok ov,IsItemIter h it d i n ep ok ov)∨∃ ok ov a f oa,KdxIt h it d i n ep ok ov a f/\h.get? a=some oa/\a≠it/\a≠S
theorem qC.keep {h h':Heap}{it d S:Addr}{i n ep:Nat}(x:qC h it d S i n ep) (hk:∀ b o,b≠S->h.get? b=some o->h'.get? b=some o) (hI:it≠S):qC h' it d S i n ep:=by
 rcases x with ⟨ok,ov,hit⟩ | ⟨ok,ov,a,f,oa,hit,ha,oF,Bx⟩
 ·exact .inl ⟨ok,ov,hk _ _ hI hit⟩
 ·exact .inr ⟨ok,ov,a,f,oa,hk _ _ hI hit,hk _ _ Bx ha,oF,Bx⟩
structure nI (es:List DictEntry) (lo:Addr) (h:Heap) (as:List Addr):Prop where
 rise:as.Pairwise (· < ·)
 above:∀ a∈as,lo < a
 pairs:∀ (j:Nat) (a:Addr),as[j]?=some a->∃ e,es[j]?=some e/\h.get? a=some {cls:=.type "tuple",data:=.seq #[e.key,e.val]}
end
section
variable {prog:Program}{w:World}{A:Around}{s:Shared}{R:Result->Shared->Prop}{es:Array DictEntry}{ep:Nat}{od:Obj}
theorem qD {S I d:Addr}(hh:A.handled=none) (Gx:S < I) (By:d≠S) (Jd:d≠I) (hn:es.size<=sizeLine) (bT:od.data=.dict es ep) (qE:Value) {h₁:Heap}
  (hR:∀ h' tk acc c as,(∀ b o,b≠S->b≠I->h₁.get? b=some o->h'.get? b=some o)->h'.get? S=some {cls:=.type "list",dict:=none,data:=.seq acc c,slots:=#[]}->as.length=es.size->nI es.toList I h' as->
   acc.toList=as.map Value.ref->R (.ok (.ret qE)) {s with heap:=h',toks:=tk}):
  ∀ (k i:Nat) (h:Heap) (tk c:Nat) (acc:Array Value) (as:List Addr),es.size - i=k->i<=es.size->qC h I d S i es.size ep->h.get? d=some od->(∀ b o,b≠S->b≠I->h₁.get? b=some o->h.get? b=some o)->
   h.get? S=some {cls:=.type "list",dict:=none,data:=.seq acc c,slots:=#[]}->acc.toList=as.map Value.ref->as.length=i->nI es.toList I h as->I < h.objs.size->
   codeAny (model prog w) A (.builtin "list.extend.loop" ⟨[.ref S,.ref I,qE],[]⟩) R {s with heap:=h,toks:=tk}:=by
 have bx:S≠I:=Nat.ne_of_lt Gx
 intro k
 induction k with
 | zero=>
  intro i h tk c acc as hk hi r8 hD r9 hS fz oG hG DM
  refine codeAny_builtin PySem.F.entry_extend_loop ?_
  rw [Around.under_plainId PySem.F.plain_extend_loop _]
  show wpAny _ A.in1 (pyNext (.ref I)>>=_) _ _ _
  obtain ⟨o0,f0,ok,ov,hit⟩:∃ o0 f0 ok ov,h.get? I=some {cls:=.type "dict_itemiterator",dict:=none,data:=.fields #[o0,f0,.ref d,.int i 0,.int es.size 0,.int ep 0,ok,ov],slots:=#[]}:=by
   rcases r8 with ⟨ok,ov,hit⟩ | ⟨ok,ov,a,f,oa,hit,_⟩
   ·exact ⟨_,_,_,_,hit⟩
   ·exact ⟨_,_,_,_,hit⟩
  refine wpAny_bind (ke (s:={s with heap:=h,toks:=tk}) (A:=A.in1) hh hit hD bT rfl (by lia) fun h' he=>?_)
  refine wpAny_pure (hR h' tk acc c as (fun b o h1 h2 e=>he b o h2 (r9 b o h1 h2 e)) (he S _ bx hS) (by lia) ⟨hG.rise,hG.above,fun j a hj=>?_⟩ fz)
  obtain ⟨e,e1,e3⟩:=hG.pairs j a hj
  exact ⟨e,e1,he a _ (Nat.ne_of_gt (hG.above a (List.mem_of_getElem? hj))) e3⟩
 | succ k ih=>
  intro i h tk c acc as hk hi r8 hD r9 hS fz oG hG DM
  have iR:i < es.size:=by lia
  obtain ⟨e,hx⟩:∃ e,es[i]?=some e:=⟨es[i],Array.getElem?_eq_getElem iR⟩
  have ax:acc.size=i:=by rw [<- Array.length_toList,fz,List.length_map,oG]
  have sf:S < h.objs.size:=Heap.lt_size hS
  refine codeAny_builtin PySem.F.entry_extend_loop ?_
  rw [Around.under_plainId PySem.F.plain_extend_loop _]
  show wpAny _ A.in1 (pyNext (.ref I)>>=_) _ _ _
  refine wpAny_bind ?_
  have fin:∀ h',qC h' I d S (i+1) es.size ep->h'.get? h.objs.size=some {cls:=.type "tuple",data:=.seq #[e.key,e.val]}->h'.objs.size=h.objs.size+1->(∀ b o,b≠I->h.get? b=some o->h'.get? b=some o)->
    wpAny (model prog w) A.in1 (updateSeq S (·.push (Value.ref h.objs.size))>>=fun _=>again (.builtin "list.extend.loop" ⟨[.ref S,.ref I,qE],[]⟩)) (fun fin s'=>match fin with | .done f=>R (.ok f) s' | .again c'=>c'.quiet=true/\codeAny (model prog w) A c' R s') (fun e s'=>R (.error e) s') {s with heap:=h',toks:=tk}:=by
   intro h' Gy ht hz oH
   have vb:=oH S _ bx hS
   have up:∀ b o,b≠S->h'.get? b=some o->(h'.update S (Obj.mapSeq (·.push (Value.ref h.objs.size)))).get? b=some o:=fun b o hb e=>(Heap.get?_update_other _ _ (Ne.symm hb)).trans e
   refine wpAny_bind ?_
   refine wpAny_updateSeq (s:={s with heap:=h',toks:=tk}) vb rfl (wpAny_pure ⟨plainId_quiet PySem.F.plain_extend_loop _,ih (i+1) _ tk _ (acc.push (Value.ref h.objs.size)) (as++[h.objs.size]) (by lia) iR (Gy.keep up (Ne.symm bx)) (up d _ By (oH d _ Jd hD))
    (fun b o h1 h2 e=>up b o h1 (oH b o h2 (r9 b o h1 h2 e))) (Heap.get?_update_self _ vb rfl) (by rw [Array.toList_push,fz,List.map_append];rfl) (by rw [List.length_append,oG];rfl) ⟨?_,?_,?_⟩ ?_⟩) (by rw [ax];lia) (by show (acc.push (Value.ref h.objs.size)).size<=sizeLine+1;rw [Array.size_push,ax];lia)
   ·refine List.pairwise_append.mpr ⟨hG.rise,List.pairwise_singleton _ _,fun a ha b hb=>?_⟩
    rw [List.mem_singleton.mp hb]
    obtain ⟨j,hj⟩:=List.mem_iff_getElem?.mp ha
    obtain ⟨_,_,e3⟩:=hG.pairs j a hj
    exact Heap.lt_size e3
   ·intro a ha
    rcases List.mem_append.mp ha with ha | ha
    ·exact hG.above a ha
    ·rw [List.mem_singleton.mp ha];exact DM
   ·intro j b hj
    rcases Nat.lt_trichotomy j as.length with h1 | h1 | h1
    ·rw [List.getElem?_append_left h1] at hj
     obtain ⟨e',e1,e3⟩:=hG.pairs j b hj
     have hb:=hG.above b (List.mem_of_getElem? hj)
     exact ⟨e',e1,up b _ (Nat.ne_of_gt (Nat.lt_trans Gx hb)) (oH b _ (Nat.ne_of_gt hb) e3)⟩
    ·subst h1
     have hb:h.objs.size=b:=by simpa using hj
     subst hb
     exact ⟨e,by rw [oG];simpa using hx,up _ _ (Nat.ne_of_gt sf) ht⟩
    ·have DN:(as++[h.objs.size])[j]?=none:=List.getElem?_eq_none (by rw [List.length_append,List.length_singleton];lia)
     rw [DN] at hj;cases hj
   ·exact Nat.lt_trans DM (Heap.lt_size (up _ _ (Nat.ne_of_gt sf) ht))
  rcases r8 with ⟨ok,ov,hit⟩ | ⟨ok,ov,a,f,oa,hit,ha,oF,Bx⟩
  ·exact eU (s:={s with heap:=h,toks:=tk}) hit hD bT rfl hx fun h' qF ht hz oH=>fin h' (.inr ⟨_,_,_,false,_,qF,ht,Nat.ne_of_gt (Heap.lt_size hit),Nat.ne_of_gt sf⟩) ht hz oH
  ·exact lm (s:={s with heap:=h,toks:=tk}) hit ha oF hD bT rfl hx fun h' qF ht hz oH=>fin h' (.inr ⟨_,_,a,true,oa,qF,oH a oa oF ha,oF,Bx⟩) ht hz oH
theorem qG {E:Value->Shared->Prop}{v d:Addr}{Q:Value->Shared->Prop}(hv:s.heap.IsItemsView v d) (ho:s.heap.get? d=some od) (C2:od.data=.dict es ep)
  (hQ:Q (.ref s.heap.objs.size) {s with heap:=s.heap.push {cls:=.type "dict_itemiterator",data:=.fields #[.none,.bool false,.ref d,.int 0 0,.int es.size 0,.int ep 0,.none,.none]}}):
  wpAny (model prog w) A (pyIter (.ref v)) Q E s:=by
 obtain ⟨ov,Je,Ku,Jf⟩:=id hv
 refine wpAny_pyIter_slot hv.typeIs F.slot_dict_items_iter (wpAny_call_entry F.slot_dict_items_iter hv.typeIs F.entry_dict_items_iter ?_ (F.args_dict_items_iter_1 _))
 unfold Builtin.«dict_items.__iter__»
 refine wpAny_bind (wpAny_pure ?_)
 refine wpAny_bind ?_
 unfold Builtin.Dict_items.dictOf
 refine wpAny_bind (wpAny_field Je Jf (x:=.ref d) rfl (wpAny_pure ?_))
 refine wpAny_bind ?_
 unfold Builtin.Dict_items.newIterator
 refine wpAny_bind (wpAny_dictEntries ho C2 ?_)
 refine wpAny_bind (wpAny_dictEpoch ho C2 ?_)
 have dJ:Builtin.Dict_items.ownsTuple "dict_itemiterator"=true:=by decide
 simp only [dJ,if_true]
 refine wpAny_newObj_type (wpAny_pure ⟨_,rfl,"dict_itemiterator",_,⟨_,Heap.get?_push_size _ rfl,rfl⟩,F.slot_dict_itemiterator_next.lookup,?_⟩)
  (by simp only [sizeOk,Builtin.Dict_items.ownedTupleFields,List.size_toArray,List.length_append,List.length_cons,List.length_nil,sizeLine_eq];lia)
 simpa [rawInt,Builtin.Dict_items.ownedTupleFields] using hQ
end
noncomputable def gO (tl:Mm) (xs:Array Value) (L:KV):Prop:=xs.size=L.length/\∀ (j:Nat) (x:Int×Int),L[j]?=some x->∃ a t u,xs[j]?=some (.ref a)/\(a,bb (.int x.1 t) (.int x.2 u))∈tl
noncomputable def c5 (E:En) (h:Heap) (xs:Array Value) (L:KV):Prop:=xs.size=L.length/\∀ (j:Nat) (x:Int×Int),L[j]?=some x->∃ a t u,xs[j]?=some (.ref a)/\h.get? a=some (bb (.int x.1 t) (.int x.2 u))/\(g8 a E.mu=true∨E.T.get a=none)
theorem vc (m:Mm) (x:Addr×Obj) (tl:Mm):bR (bh m x) tl=bR m (x::tl):=by
 induction m with
 | nil=>rfl
 | cons y m ih=>exact congrArg (y::·) ih
theorem kf (m:Mm):bR m []=m:=by
 induction m with
 | nil=>rfl
 | cons y m ih=>exact congrArg (y::·) ih
theorem nJ {tl:Mm}{x:Addr×Obj}(h:x∈tl):∃ i,Y tl i=some x:=by
 induction tl with
 | nil=>cases h
 | cons y tl ih=>
  rcases List.mem_cons.mp h with rfl | h
  ·exact ⟨0,rfl⟩
  ·obtain ⟨i,e⟩:=ih h
   exact ⟨i+1,e⟩
section
variable {E:En}{d:Drawn}{os:OsState}{V:Heap}{U:Nat}
theorem Rep.tail {m tl:Mm}{n:Nat}{h:Heap}(r:Rep E V U (bR m tl) n h) {x:Addr×Obj}(hx:x∈tl):h.get? x.1=some x.2/\(g8 x.1 E.mu=true∨E.T.get x.1=none):=by
 obtain ⟨i,e⟩:=nJ hx
 have e2:Y (bR m tl) (ah m+i)=some x:=by
  rw [eW,if_neg (by lia)]
  have:ah m+i - ah m=i:=by lia
  rw [this];exact e
 exact ⟨r.own _ x.1 x.2 e2,r.off _ x.1 x.2 e2⟩
theorem gO.heap {m tl:Mm}{n:Nat}{h:Heap}{xs:Array Value}{L:KV}(p:gO tl xs L) (r:Rep E V U (bR m tl) n h):c5 E h xs L:=by
 refine ⟨p.1,fun j x e=>?_⟩
 obtain ⟨a,t,u,e1,e2⟩:=p.2 j x e
 exact ⟨a,t,u,e1,r.tail e2⟩
structure vd (L:KV) where
 xs:Array Value
 e:Nat
 tl:Mm
 hP:gO tl xs L
 j:Nat
 tk:Nat
noncomputable def vd.df (L:KV):vd L:=⟨(L.map fun _=>Value.ref 0).toArray,0,L.map fun x=>(0,bb (.int x.1 0) (.int x.2 0)),⟨by simp,fun j x e=>⟨0,0,0,by simp [e],List.mem_map.mpr ⟨x,List.mem_of_getElem? e,rfl⟩⟩⟩,0,0⟩
noncomputable def Gz (b:Bool) (tl:Mm):Mm:=@Bool.rec (fun _=>Mm) [] tl b
end
section
variable {L:KV}{h h':Heap}{k n n':Nat}{m m' bm:Mm}{o₀:Obj}{v w:Value}{xs:Array Value}
noncomputable def c6 (o:Obj):Bool:=match o.cls with
 | .type s=>s=="tuple"
 | _=>false
noncomputable def jL:Mm->Mm->Prop
 | [],_=>True
 | x::m,y::m'=>(c6 x.2=false∨y=x)/\jL m m'
 | _::_,[]=>False
theorem jL.at:∀ {m m':Mm}{i:Nat}{x:Addr×Obj},jL m m'->Y m i=some x->c6 x.2=true->Y m' i=some x
 | [],_,i,x,_,e,_=>by cases e
 | x::m,y::m',0,z,h,e,t=>by
  cases e
  rcases h.1 with q | q
  ·rw [t] at q;cases q
  ·subst q;rfl
 | x::m,y::m',i+1,z,h,e,t=>jL.at (m:=m) (m':=m') h.2 e t
 | _::_,[],_,_,h,_,_=>h.elim
section
variable {E:En}{d:Drawn}{os:OsState}{V:Heap}{U:Nat}
theorem c5.step (p:c5 E h xs L) (r:Rep E h k bm n h) (r':Rep E h k m' n' h') (hs:(m'.take k).map (·.1)=(bm.take k).map (·.1)) (ok:jL bm m'):c5 E h' xs L:=by
 refine ⟨p.1,fun j x e=>?_⟩
 obtain ⟨a,t,u,e1,e2,e3⟩:=p.2 j x e
 refine ⟨a,t,u,e1,?_,e3⟩
 have gl:∀ (l:Mm) (i:Nat),Y l i=l[i]?:=by
  intro l
  induction l with
  | nil=>intro i;rfl
  | cons y l ih=>intro i;cases i with | zero=>rfl | succ i=>exact ih i
 by_cases hx:∃ i o',i < k/\Y m' i=some (a,o')
 ·obtain ⟨i,o',hi,hm⟩:=hx
  have h1:((m'.take k).map (·.1))[i]?=some a:=by
   rw [List.getElem?_map,List.getElem?_take,if_pos hi,<- gl,hm];rfl
  rw [hs,List.getElem?_map,List.getElem?_take,if_pos hi,<- gl] at h1
  cases q:Y bm i with
  | none=>rw [q] at h1;cases h1
  | some y=>
   rw [q] at h1
   obtain ⟨b,o⟩:=y
   have hb:b=a:=Option.some.inj h1
   subst hb
   have ho:=r.own i b o q
   rw [e2] at ho
   cases ho
   exact r'.own i b _ (ok.at q rfl)
 ·exact r'.keep a _ e2 fun i b o' hi hm hb=>hx ⟨i,o',hi,hb▸hm⟩
theorem Rep.subT (r:Rep E V U m n h) (is:List Nat) (e:aZ m is=bm) (nd:is.Nodup) (hl:ah bm=is.length) (ok:∀ i x,Y bm i=some x->c6 x.2=false) {a:Addr}(ha:h.get? a=some (bb v w)) (ht:g8 a E.mu=true∨E.T.get a=none):Rep E h (is.length+1) (bh bm (a,bb v w)) n h:=by
 subst e
 have r1:=r.sub is (aE hl) nd
 refine ⟨r1.size,r1.base,fun i b o q=>?_,fun i j b o1 o2 q1 q2=>?_,fun i b o q=>?_,fun b o q _=>q,r1.start,fun i b o hi q=>?_,?_,r1.lowT⟩
 ·rw [av] at q
  split at q
  ·cases q;exact ha
  ·exact r1.own i b o q
 ·rw [av] at q1 q2
  have na:∀ i o,Y (aZ m is) i=some (a,o)->False:=fun i o q=>by
   have:=r1.own i a o q
   rw [ha] at this
   cases this
   have:=ok i _ q
   cases this
  split at q1
  ·next e1=>
   split at q2
   ·next e2=>rw [e1,e2]
   ·cases q1;exact (na _ _ q2).elim
  ·split at q2
   ·cases q2;exact (na _ _ q1).elim
   ·exact r1.apart i j b o1 o2 q1 q2
 ·rw [av] at q
  split at q
  ·cases q;exact ht
  ·exact r1.off i b o q
 ·rw [av] at q
  split at q
  ·next e1=>rw [hl] at e1;lia
  ·exact r1.fresh i b o (by lia) q
 ·rw [gh,hl];exact Nat.le_refl _
theorem Rep.subV (r:Rep E V U m n h) (is:List Nat) (e:aZ m is=bm) (nd:is.Nodup) (hl:ah bm=is.length) {a:Addr}(ok:∀ i x,Y bm i=some x->x.2≠o₀) (ha:h.get? a=some o₀) (ht:g8 a E.mu=true∨E.T.get a=none):Rep E h (is.length+1) (bh bm (a,o₀)) n h:=by
 subst e
 have r1:=r.sub is (aE hl) nd
 refine ⟨r1.size,r1.base,fun i b o q=>?_,fun i j b o1 o2 q1 q2=>?_,fun i b o q=>?_,fun b o q _=>q,r1.start,fun i b o hi q=>?_,?_,r1.lowT⟩
 ·rw [av] at q
  split at q
  ·cases q;exact ha
  ·exact r1.own i b o q
 ·rw [av] at q1 q2
  have na:∀ i o,Y (aZ m is) i=some (a,o)->False:=fun i o q=>by
   have:=r1.own i a o q
   rw [ha] at this
   exact ok i _ q (Option.some.inj this).symm
  split at q1
  ·next e1=>
   split at q2
   ·next e2=>rw [e1,e2]
   ·cases q1;exact (na _ _ q2).elim
  ·split at q2
   ·cases q2;exact (na _ _ q1).elim
   ·exact r1.apart i j b o1 o2 q1 q2
 ·rw [av] at q
  split at q
  ·cases q;exact ht
  ·exact r1.off i b o q
 ·rw [av] at q
  split at q
  ·next e1=>rw [hl] at e1;lia
  ·exact r1.fresh i b o (by lia) q
 ·rw [gh,hl];exact Nat.le_refl _
end
section
variable {E:En}{V:Heap}{U:Nat}
theorem Rep.forget {x:Addr×Obj}(r:Rep E h (k+1) (bh m x) n h') (hl:ah m=k) (hx:h.get? x.1=some x.2):Rep E h k m n h':=by
 have up:∀ i y,Y m i=some y->Y (bh m x) i=some y:=fun i y q=>by
  rw [av]
  split
  ·next e=>
   have z:∀ (m:Mm),Y m (ah m)=none:=by
    intro m
    induction m with
    | nil=>rfl
    | cons y m ih=>exact ih
   rw [e,z] at q;cases q
  ·exact q
 have lt:∀ i y,Y m i=some y->i < k:=fun i y q=>by
  subst hl
  have z:∀ (m:Mm) (i:Nat) y,Y m i=some y->i < ah m:=by
   intro m
   induction m with
   | nil=>intro i y q;cases q
   | cons y m ih=>
    intro i z q
    cases i with
    | zero=>exact Nat.succ_pos _
    | succ i=>exact Nat.succ_lt_succ (ih i z q)
  exact z m i y q
 have GA:Y (bh m x) k=some x:=by rw [av,if_pos hl.symm]
 refine ⟨r.size,r.base,fun i a o q=>r.own i a o (up i _ q),fun i j a o o' q1 q2=>r.apart i j a o o' (up i _ q1) (up j _ q2),fun i a o q=>r.off i a o (up i _ q),fun b o q z=>?_,r.start,fun i a o hi q=>absurd (lt i _ q) (Nat.not_lt.mpr hi),by rw [hl];exact Nat.le_refl _,r.lowT⟩
 by_cases e:b=x.1
 ·subst e
  rw [hx] at q
  cases q
  exact r.own k x.1 x.2 GA
 ·refine r.keep b o q fun i a o' hi hm=>?_
  rw [av] at hm
  split at hm
  ·cases hm;exact fun q=>e q.symm
  ·exact z i a o' (lt i _ hm) hm
end
noncomputable def ae (xs:Array Value) (ks:List Int):Prop:=xs.toList.map a9=ks.map fun k=>Value.int k 0
theorem ae.nil:ae #[] []:=rfl
theorem ae.push {ks:List Int}(h:ae xs ks) (k:Int) (t:Tok):ae (xs.push (.int k t)) (ks++[k]):=by
 unfold ae at *
 rw [Array.toList_push,List.map_append,List.map_append,h];rfl
end
noncomputable def sh (c:Code):Option (String×List Value):=match c with
 | .builtin id args=>match args with
  | ⟨pos,[]⟩=>some (id,pos)
  | _=>none
 | _=>none
theorem ve {c:Code}{id:String}{vs:List Value}(h:sh c=some (id,vs)):c=.builtin id ⟨vs,[]⟩:=by
 unfold sh at h
 split at h
 ·split at h
  ·cases h;rfl
  ·cases h
 ·cases h
theorem ae.at {xs:Array Value}{ks:List Int}(h:ae xs ks) {y:Value}(hy:y∈xs):∃ k t,y=.int k t:=by
 have:a9 y∈xs.toList.map a9:=List.mem_map_of_mem (Array.mem_toList_iff.mpr hy)
 rw [h] at this
 obtain ⟨k,_,e⟩:=List.mem_map.mp this
 obtain ⟨t,e⟩:=aO e.symm
 exact ⟨k,t,e⟩
noncomputable def mn (k:Int) (y:Value):Bool:=match y with | .int i _=>i==k | _=>false
section
variable {E:En}{d:Drawn}{os:OsState}
noncomputable def nK (i l e:Nat) (xs:Array Value) (v:Value) (hn:xs.size<=1000):ay E d os:=
 ay.leaf Unit () (fun q=>(sh q.code,Y q.m i)) (some ("list.append",[.ref l,v]),some (l,ad xs e)) (fun _ _=>.none) (fun _ q=>aK q.m i (ad (xs.push v) (e+1))) (fun _ q=>q.n) (fun _ q=>q.tk) (fun _=>True) (by
  intro V U q Q h g e' hc hg hr kk
  obtain ⟨e1,e2⟩:=Prod.ext_iff.mp e'
  dsimp only at e1 e2
  have ho:=hr.own _ _ _ e2
  refine cI (hc.trans (ve e1)) entry_list_append (by decide+kernel) (PySem.list_append l xs e v (cG hn)) ⟨ho,?_⟩
  have hu:=Heap.get?_update_self (Obj.mapSeq fun Jg=>Jg.push v) ho rfl
  refine kk () trivial _ g hg (hr.chg e2 (hu.trans (congrArg some (Obj.mapSeq_push_plain xs e v))) (by show (Heap.update _ _ _).objs.size=q.n;rw [<- hr.size];simp [Heap.update]) (Nat.le_refl _) fun b x hb hx=>(Heap.get?_update_other _ _ (Ne.symm hb)).trans hx))
noncomputable def yH (i l:Nat) (o:Obj) (a b r:Int) (hr:max a b=r):ay E d os:=
 ay.leaf yG ⟨0,0,0⟩ (fun q=>(mi q.code,Y q.m i,qA q)) (some (.builtin "max",[.int a 0,.int b 0]),some (l+1109,o),none,none,none,true) (fun x _=>.int r x.t) (fun _ q=>q.m) (fun x _=>x.j+1109) (fun x _=>x.tk) (fun _=>True) (by
  intro V U q Q h g e' hc hg dM kk
  obtain ⟨e1,e'⟩:=Prod.ext_iff.mp e'
  obtain ⟨e2,e3⟩:=Prod.ext_iff.mp e'
  dsimp only at e1 e2 e3
  obtain ⟨f',pos,e4,e5,e6⟩:=kc e1
  obtain ⟨c1,l',qB⟩:=mj e3
  rw [hc.trans e4] at qB
  obtain ⟨x,y,rfl,h2,h3⟩:=map_two e6
  obtain ⟨t,rfl⟩:=aO h2
  obtain ⟨u,rfl⟩:=aO h3
  have hf:f'=.builtin "max":=by
   cases f'<;>first | exact e5 | cases e5
  subst hf
  refine jm ?_
  refine jn qB ?_ rfl
  obtain ⟨j,hj⟩:=bY (i:=i) dM e2
  refine max_two_ints rfl fun h' tk hk=>?_
  intro hs
  have hn:h'.objs.size=(h'.objs.size - 1109)+1109:=by have:=dM.size;have:h.objs.size<=h'.objs.size:=hs;lia
  have hv:∃ t',(if b>a then Value.int b u else Value.int a t)=.int r t':=by
   by_cases z:b>a
   ·rw [if_pos z];exact ⟨u,by rw [<- hr];congr 1;lia⟩
   ·rw [if_neg z];exact ⟨t,by rw [<- hr];congr 1;lia⟩
  obtain ⟨t',hv⟩:=hv
  rw [hv]
  exact kk ⟨t',h'.objs.size - 1109,tk⟩ trivial h' g hg (dM.grow hn (by rw [<- hn,<- dM.size];exact hs) hk))
end
section
variable {d:Drawn}{os:OsState}{V:Heap}{U:Nat}
end


section
variable {a b be da e0 i it j k0 k1 k2 l m0 rp sg t1 tk:Nat}{b1 b2:Bool}{d:Drawn}{f0 f1 f2 f4:FN}{k kv ov:Int}{p0 p1 p2 p3 p4 p5:Pos}{rs:Array DictEntry}{w:World}{xs:Array Value}
noncomputable def ci:Str:=sZ 0x676e697070616d
noncomputable def bg:Str:=sZ 0x7465675f676e697070616d
noncomputable abbrev Aa:=fun a=>(.ref (a+1109):Value)
noncomputable abbrev Ae:=fun a b c=>b8 (au a 821 1) (b+1109) (envOf a 821 (c+1109))
noncomputable abbrev Ah:=fun a b c=>((a+1109,(ad b c)):Addr×Obj)
noncomputable abbrev Ak:=fun a b c=>((a+1109,ad b c):Addr×Obj)
noncomputable abbrev Ao:=fun a b=>((a+1109,⟨(.type "builtin_function_or_method"),none,.fields #[(.builtin "dict.get"),(Aa b)],#[]⟩):Addr×Obj)
noncomputable abbrev Ap:=fun a=>(⟨.type "builtin_function_or_method",none,.fields #[.builtin "dict.get",.ref (a+1109)],#[]⟩:Obj)
noncomputable abbrev Aw:=fun a b=>bP (a+1109) b
noncomputable abbrev A1:=fun a b c d=>aa a b c (Aa d)
noncomputable abbrev A7:=fun a b c=>aa a cf b c
noncomputable abbrev AD:=fun a b c=>((a+1109,(Aw b (c+1))):Addr×Obj)
noncomputable abbrev AM:=fun a b c d=>((a+1109,cnt b c d):Addr×Obj)
noncomputable abbrev AT:=fun a b c=>((a+1109,Aw b c):Addr×Obj)
theorem DO {os:OsState}{t3:Nat}{f3:CQ}(hx:xs[i]?=some (.int kv t1)) (dj:IntKeys rs) (ax:rs.size<=sizeLine) (dN:findBy Value.isInt rs kv=some (.int ov t3)):
  Qw w b1 b2 d os fun W=>⟨E2 W,5,⟨(Ae W it l),none,none,[(fn f0,p0),(fn f1,p1),(fn f2,p2),(cq f3,p3),(fn f4,p4),(CC,p5)],none⟩,den (Ae W it l),[AM a da rs rp,(l+1109,aL [A1 W ci k0 a,A7 W k1 (Aa b),A1 W bg k2 sg] e0),(sg+1109,(Ap a)),Ak b xs be,AT it b i],j+1109,tk,.u (cH 4 3 (it+1109) (b+1109) i be xs (.int kv t1) hx)<| .u (l2 0 (a+1109) (cnt da rs rp) rs rp rfl dj kv (.int 0 0) (some (.int ov t3)) dN)<| .u (iq 0 (a+1109) (cnt da rs rp) rs rp rfl dj ax (bH _ _ _ _) kv (.int (ov+1) 0))<| .e (.e (.again (Ae W it l)) [(a+1109,cnt da (eu rs kv (.int kv t1) (.int (ov+1) (tk+4))) ((ev rs rp kv))),(l+1109,aL [A1 W ci k0 a,A7 W k1 (Aa b),A1 W bg k2 sg,aa W bk tk (.int kv t1)] (e0+1)),Ao sg a,Ah b xs be,AD it b i] (j+1109) (tk+6))⟩:=ee 115 [5,0,5,1] [(Hx 0x110011013032222),(Hx 0x110100001012200),[]] [] (by kernel_rfl)
theorem DP {os:OsState}{f3:CQ}(hx:xs[i]?=some (.int kv t1)) (dj:IntKeys rs) (ax:rs.size<=sizeLine) (dN:findBy Value.isInt rs kv=none):
  Qw w b1 b2 d os fun W=>⟨E2 W,5,⟨(Ae W it l),none,none,[(fn f0,p0),(fn f1,p1),(fn f2,p2),(cq f3,p3),(fn f4,p4),(CC,p5)],none⟩,den (Ae W it l),[AM a da rs rp,(l+1109,aL [A1 W ci k0 a,A7 W k1 (Aa b),A1 W bg k2 sg] e0),(sg+1109,(Ap a)),Ak b xs be,AT it b i],j+1109,tk,.u (cH 4 3 (it+1109) (b+1109) i be xs (.int kv t1) hx)<| .u (l2 0 (a+1109) (cnt da rs rp) rs rp rfl dj kv (.int 0 0) none dN)<| .u (iq 0 (a+1109) (cnt da rs rp) rs rp rfl dj ax (bH _ _ _ _) kv (.int (0+1) 0))<| .e (.e (.again (Ae W it l)) [(a+1109,cnt da (eu rs kv (.int kv t1) (.int 1 (tk+4))) ((ev rs rp kv))),(l+1109,aL [A1 W ci k0 a,A7 W k1 (Aa b),A1 W bg k2 sg,aa W bk tk (.int kv t1)] (e0+1)),Ao sg a,Ah b xs be,AD it b i] (j+1109) (tk+6))⟩:=ee 115 [5,0,5,1] [(Hx 0x110011013032222),(Hx 0x110100001012200),[]] [] (by kernel_rfl)
theorem DQ {os:OsState}{t3:Nat}{f3:CQ}{q0:Value}(hx:xs[i]?=some (.int kv t1)) (dj:IntKeys rs) (ax:rs.size<=sizeLine) (dN:findBy Value.isInt rs kv=some (.int ov t3)):
  Qw w b1 b2 d os fun W=>⟨E2 W,5,⟨(Ae W it l),none,none,[(fn f0,p0),(fn f1,p1),(fn f2,p2),(cq f3,p3),(fn f4,p4),(CC,p5)],none⟩,den (Ae W it l),[AM a da rs rp,(l+1109,aL [A1 W ci k0 a,A7 W k1 (Aa b),A1 W bg k2 sg,aa W bk m0 q0] e0),(sg+1109,(Ap a)),Ak b xs be,AT it b i],j+1109,tk,.u (cH 4 3 (it+1109) (b+1109) i be xs (.int kv t1) hx)<| .u (l2 0 (a+1109) (cnt da rs rp) rs rp rfl dj kv (.int 0 0) (some (.int ov t3)) dN)<| .u (iq 0 (a+1109) (cnt da rs rp) rs rp rfl dj ax (bH _ _ _ _) kv (.int (ov+1) 0))<| .e (.e (.again (Ae W it l)) [(a+1109,cnt da (eu rs kv (.int kv t1) (.int (ov+1) (tk+4))) ((ev rs rp kv))),(l+1109,aL [A1 W ci k0 a,A7 W k1 (Aa b),A1 W bg k2 sg,aa W bk m0 (.int kv t1)] e0),Ao sg a,Ah b xs be,AD it b i] (j+1109) (tk+6))⟩:=ee 115 [5,0,5,1] [(Hx 0x110011013032222),(Hx 0x110100001012200),[]] [] (by kernel_rfl)
theorem DR {os:OsState}{f3:CQ}{q0:Value}(hx:xs[i]?=some (.int kv t1)) (dj:IntKeys rs) (ax:rs.size<=sizeLine) (dN:findBy Value.isInt rs kv=none):
  Qw w b1 b2 d os fun W=>⟨E2 W,5,⟨(Ae W it l),none,none,[(fn f0,p0),(fn f1,p1),(fn f2,p2),(cq f3,p3),(fn f4,p4),(CC,p5)],none⟩,den (Ae W it l),[AM a da rs rp,(l+1109,aL [A1 W ci k0 a,A7 W k1 (Aa b),A1 W bg k2 sg,aa W bk m0 q0] e0),(sg+1109,(Ap a)),Ak b xs be,AT it b i],j+1109,tk,.u (cH 4 3 (it+1109) (b+1109) i be xs (.int kv t1) hx)<| .u (l2 0 (a+1109) (cnt da rs rp) rs rp rfl dj kv (.int 0 0) none dN)<| .u (iq 0 (a+1109) (cnt da rs rp) rs rp rfl dj ax (bH _ _ _ _) kv (.int (0+1) 0))<| .e (.e (.again (Ae W it l)) [(a+1109,cnt da (eu rs kv (.int kv t1) (.int 1 (tk+4))) ((ev rs rp kv))),(l+1109,aL [A1 W ci k0 a,A7 W k1 (Aa b),A1 W bg k2 sg,aa W bk m0 (.int kv t1)] e0),Ao sg a,Ah b xs be,AD it b i] (j+1109) (tk+6))⟩:=ee 115 [5,0,5,1] [(Hx 0x110011013032222),(Hx 0x110100001012200),[]] [] (by kernel_rfl)
theorem GB {os:OsState}{f3:CQ}(hx:xs.size<=i):
  Qw w b1 b2 d os fun W=>⟨E2 W,2,⟨(Ae W it l),none,none,[(fn f0,p0),(fn f1,p1),(fn f2,p2),(cq f3,p3),(fn f4,p4),(CC,p5)],none⟩,den (Ae W it l),[Ak b xs be,AT it b i],j+1109,tk,.c (jI 1 0 (it+1109) (b+1109) i be xs hx) fun x1=>.e (.e (.done .next) [Ah b xs be,(it+1109,(x1))] (j+1111) tk)⟩:=ee 69 [2,0,2,1] [[4,0]] [] (by kernel_rfl)
theorem ae.size {ks:List Int}(h:ae xs ks):xs.size=ks.length:=by
 have z:=congrArg List.length h
 rw [List.length_map,List.length_map,Array.length_toList] at z
 exact z
theorem ae.get {ks:List Int}(h:ae xs ks) (e:ks[i]?=some k):∃ t,xs[i]?=some (.int k t):=by
 have z:=congrArg (fun l=>l[i]?) h
 simp only [List.getElem?_map,e,Option.map_some] at z
 rw [Array.getElem?_toList] at z
 cases q:xs[i]? with
 | none=>rw [q] at z;cases z
 | some v=>
  rw [q] at z
  obtain ⟨t,rfl⟩:=aO (Option.some.inj z)
  exact ⟨t,rfl⟩
noncomputable def bq (r:KV) (k:Int):KV:=putL r k (ct r k+1)
theorem vf (r:KV) (k:Int):(bq r k).length<=r.length+1:=nD _ _ _
inductive Bz (W:World) (a b sg:Nat):Obj->Prop
 | f {k0 k1 k2 e0:Nat}:Bz W a b sg (aL [aa W ci k0 (.ref (a+1109)),aa W cf k1 (.ref (b+1109)),aa W bg k2 (.ref (sg+1109))] e0)
 | l {k0 k1 k2 m0:Nat}{q0:Value}{e0:Nat}:Bz W a b sg (aL [aa W ci k0 (.ref (a+1109)),aa W cf k1 (.ref (b+1109)),aa W bg k2 (.ref (sg+1109)),aa W bk m0 q0] e0)
noncomputable abbrev GC (a:Nat):Obj:=⟨.type "builtin_function_or_method",none,.fields #[.builtin "dict.get",.ref (a+1109)],#[]⟩
noncomputable abbrev BA (a da l sg b it be:Nat) (xs:Array Value) (rs:Array DictEntry) (rp:Nat) (ns ito:Obj):Mm:=[(a+1109,cnt da rs rp),(l+1109,ns),(sg+1109,GC a),(b+1109,ad xs be),(it+1109,ito)]
section
variable {d:Drawn}{os:OsState}{w:World}{b1 b2:Bool}{R:Result->Shared->Prop}{l it a b sg da be:Nat}{xs:Array Value}{f0 f1 f2 f4:FN}{f3:CQ}{p0 p1 p2 p3 p4 p5:Pos}{V:Heap}{U:Nat}
noncomputable abbrev GD (w:World) (l it:Nat):Code:=b8 (au w 821 1) (it+1109) (envOf w 821 (l+1109))
noncomputable abbrev Ad:=fun a b c=>E2 (W2 a b c)
noncomputable abbrev AK:=fun a b c=>Mo (Ad a b c)
theorem yI (hk:U<=5) {A:List Int}(hA:ae xs A):∀ (cz:List Int) (i:Nat),A.drop i=cz->∀ (r:KV) (rs:Array DictEntry) (rp:Nat) (ns:Obj) (j tk:Nat) (h:Heap) (g:Array GenState) (p:Pos),
  Tells rs r->r.length+cz.length<=sizeLine->Bz (W2 w b1 b2) a b sg ns->AllBare g->Rep (Ad w b1 b2) V U (BA a da l sg b it be xs rs rp ns (Aw b i)) (j+1109) h->
  (∀ j' a8 iW kg cD mq h' g',Tells iW (cz.foldl bq r)->Bz (W2 w b1 b2) a b sg cD->AllBare g'->Rep (Ad w b1 b2) V U (BA a da l sg b it be xs iW kg cD mq) (j'+1109) h'->R (.ok .next) ⟨h',g',d,a8,os⟩)->
  wpCode (AK w b1 b2) ⟨GD (W2 w b1 b2) l it,none,none,[(fn f0,p0),(fn f1,p1),(fn f2,p2),(cq f3,p3),(fn f4,p4),(CC,p5)],none⟩ R p ⟨h,g,d,tk,os⟩:=by
 intro cz
 induction cz with
 | nil=>
  intro i hi r rs rp ns j tk h g p hr hz bz hg rep fin
  have hx:xs.size<=i:=by
   rw [hA.size]
   exact List.drop_eq_nil_iff.mp hi
  refine bc (E:=E2 (W2 w b1 b2)) (V:=h) (U:=2) hg (rep.sub [3,4] (aE rfl) (by decide)) ?_
  refine GB hx p (Nat.le_refl _) fun x _ p2 h2 g2 ag ac=>?_
  exact fin (j+2) _ rs rp ns _ h2 g2 hr bz ag (rep.join' [3,4] (by decide) rfl ac rfl)
 | cons kv cz ih=>
  intro i hi r rs rp ns j tk h g p hr hz bz hg rep fin
  have DS:A[i]?=some kv:=by
   have:=congrArg (fun l=>l[0]?) hi
   simpa using this
  have eP:A.drop (i+1)=cz:=by
   have:=congrArg List.tail hi
   simpa using this
  obtain ⟨t,hx⟩:=hA.get DS
  have ax:rs.size<=sizeLine:=by rw [hr.size];rw [List.length_cons] at hz;lia
  have BB:(bq r kv).length+cz.length<=sizeLine:=by have:=vf r kv;rw [List.length_cons] at hz;lia
  refine bc (E:=E2 (W2 w b1 b2)) hg rep ?_
  rcases hr.get kv with ⟨ov,t3,e1,e2⟩ | ⟨e1,e2⟩
  ·have es:bq r kv=putL r kv (ov+1):=by unfold bq ct;rw [e1];rfl
   have ln:∀ u,Tells (eu rs kv (.int kv t) (.int (ov+1) u)) (bq r kv):=fun u=>es▸hr.put _ _ _ _
   induction bz with
   | @f k0 k1 k2 e0=>exact DO hx hr.keys ax e2 p hk fun p2 h2 g2 ag ac=>ih (i+1) eP _ _ _ _ _ _ h2 g2 p2 (ln _) BB .l ag ac fin
   | @l k0 k1 k2 m0 q0 e0=>exact DQ hx hr.keys ax e2 p hk fun p2 h2 g2 ag ac=>ih (i+1) eP _ _ _ _ _ _ h2 g2 p2 (ln _) BB .l ag ac fin
  ·have es:bq r kv=putL r kv (0+1):=by unfold bq ct;rw [e1];rfl
   have ln:∀ u,Tells (eu rs kv (.int kv t) (.int (0+1) u)) (bq r kv):=fun u=>es▸hr.put _ _ _ _
   induction bz with
   | @f k0 k1 k2 e0=>exact DP hx hr.keys ax e2 p hk fun p2 h2 g2 ag ac=>ih (i+1) eP _ _ _ _ _ _ h2 g2 p2 (ln _) BB .l ag ac fin
   | @l k0 k1 k2 m0 q0 e0=>exact DR hx hr.keys ax e2 p hk fun p2 h2 g2 ag ac=>ih (i+1) eP _ _ _ _ _ _ h2 g2 p2 (ln _) BB .l ag ac fin
structure DT (F:KV) where
 rs:Array DictEntry
 rp:Nat
 hT:Tells rs F
 ns:Obj
 ito:Obj
 j:Nat
 tk:Nat
noncomputable def Jh (l it a b sg da be k0 k1 k2 e0:Nat) (xs:Array Value) {A:List Int}(hA:ae xs A) (dk:A.length<=sizeLine) (is:List Nat) (nd:is.Nodup) (hl:5=is.length):ay (E2 (W2 w b1 b2)) d os:=
 ay.sub (DT (A.foldl bq [])) ⟨_,0,dR _,aA,aA,0,0⟩ (GD (W2 w b1 b2) l it) [1,1,1,4,1] is
  (BA a da l sg b it be xs #[] 0 (aL [aa (W2 w b1 b2) ci k0 (.ref (a+1109)),aa (W2 w b1 b2) cf k1 (.ref (b+1109)),aa (W2 w b1 b2) bg k2 (.ref (sg+1109))] e0) (bP (b+1109) 0))
  nd hl (fun _=>.next) (fun x=>BA a da l sg b it be xs x.rs x.rp x.ns x.ito) (fun x=>x.j+1109) (fun x=>x.tk) (fun _=>True) (fun x=>by rw [<- hl];rfl) (by
   intro Γ h g p n tk Q aF hc hg hr k
   refine uv aF hc fun f0 f1 f2 f3 f4 p0 p1 p2 p3 p4 p5=>?_
   obtain ⟨j,rfl⟩:=bY (i:=0) hr rfl
   exact yI (hl▸Nat.le_refl _) hA A 0 rfl [] #[] 0 _ j tk h g p jf (by simpa using dk) .f hg hr fun j' a8 iW kg cD mq h' g' bS _ bn bF=>k ⟨iW,kg,bS,cD,mq,j',a8⟩ trivial h' g' bn bF)
end
end
noncomputable abbrev Ab:=fun a=>((a+1109,aA):Addr×Obj)
noncomputable abbrev Ac:=fun a b c=>cnt (a+1109) b c
noncomputable abbrev Ax:=fun a b c=>((a+1109,⟨(.type "list"),none,.seq b c,#[]⟩):Addr×Obj)
theorem DU {d:Drawn}{os:OsState}{w:World}{b1 b2:Bool}{j tk:Nat}{t e:Nat}{xs:Array Value}{A:List Int}{f2:FN}{p2 p3:Pos}(hA:ae xs A) (dk:A.length<=sizeLine):
  Qb b1 b2 d os fun b1 b2=>⟨Ad w b1 b2,1,⟨(.call (.ref 1093) ⟨[.ref (t+1109)],[]⟩),none,none,[(fn f2,p2),(CC,p3)],none⟩,den (.call (.ref 1093) ⟨[.ref (t+1109)],[]⟩),[Ak t xs e],j+1109,tk,.c (Jh (j+13) (j+15) (j+1) t (j+14) (j+1109) e (tk+20) (tk+21) (tk+23) 3 xs hA dk [2,14,15,0,16] (by decide) rfl) fun x1=>.e (.e (.done (.ret (.ref (j+1110)))) [Ax t xs e,Ab j,(j+1110,Ac j (DT.rs x1) (x1.rp))] ((x1.j)+1109) ((x1.7)+2))⟩:=ee 588 (Hx 0x1111f010110ff0ff0ff030020330003003000000030ff000ff0ff0ff0ff0000bb00000dd00000000000e00ee0000d000000d000d00dddd0000cc00000000000000000000000000000000cc1010010101ccc100c0000cccc00000000000010000b00b20bbbbbb00008008944494455000203300000030030000000350330707030000666060666666660330060660000005000002055555500000000303000000000000000000000) [[11,10,10,0,10,0,10,0,10]] [1,2] (by kernel_rfl)
section
variable {b1 b2 lb:Bool}{d:Drawn}{f2 f4 f5:FN}{f3:FL}{j q qd qi t t1 tk tq:Nat}{kv vv:Int}{p0 p1 p2 p3 p4 p5 p6:Pos}{w:World}
theorem ky {os:OsState}{t2:Nat}{f0 f1:Args}{g3:WL}:
  Qv w b1 b2 lb d os fun W lb=>⟨E2 W,4,⟨(.call (.ref (q+1109)) ⟨[.ref t],[]⟩),none,none,[(.builtin "list.sort" f0,p0),(srt f1,p1),(fn f2,p2),(lp lb f3 g3,p3),(fn f4,p4),(fn f5,p5),(CC,p6)],none⟩,den (.call (.ref (q+1109)) ⟨[.ref t],[]⟩),[(q+1109,⟨.ref 867,some (qd+1109),.plain,#[some (.ref (qi+1109))]⟩),(qd+1109,aA),(qi+1109,⟨.type "tuple",none,.seq #[.int 1 tq] 0,#[]⟩),(t,bb (.int kv t1) (.int vv t2))],j+1109,tk,.e (.e (.done (.ret (.int vv t2))) [(q+1109,⟨(.ref 867),(some (qd+1109)),(Data.plain),#[(some (.ref (qi+1109)))]⟩),(qd+1109,(aA)),(qi+1109,⟨(.type "tuple"),none,.seq #[(.int 1 tq)] 0,#[]⟩),(t,(bb (.int kv t1) (.int vv t2)))] (j+1110) (tk+8))⟩:=Gu 179 (Hx 0x14040444303033355003030300500551010000001000000000000010000150055550000000011) [] [] 179 (Hx 0x14040444303033355003030300500551010000001000000000000010000150055550000000011) [] [] (by kernel_rfl)
end
section
variable {prog:Program}{w:World}{A:Around}{s:Shared}{R:Result->Shared->Prop}{es:Array DictEntry}{ep:Nat}{od:Obj}
theorem sj {S r d c0:Nat}(hh:A.handled=none) (hv:s.heap.IsItemsView r d) (ho:s.heap.get? d=some od) (bT:od.data=.dict es ep) (Ji:S≠r) (By:d≠S) (hS:s.heap.get? S=some {cls:=.type "list",data:=.seq #[] c0}) (qE:Value)
  (hR:∀ h' tk acc c as,(∀ b o,b≠S->s.heap.get? b=some o->h'.get? b=some o)->h'.get? S=some {cls:=.type "list",dict:=none,data:=.seq acc c,slots:=#[]}->as.length=es.size->nI es.toList s.heap.objs.size h' as->
   acc.toList=as.map Value.ref->R (.ok (.ret qE)) {s with heap:=h',toks:=tk}) (hn:es.size<=sizeLine):
  wpAny (model prog w) A.in1 (Builtin.List.listExtendWith (.ref S) (.ref r) qE)
   (fun fin s'=>match fin with | .done f=>R (.ok f) s' | .again c'=>c'.quiet=true/\codeAny (model prog w) A c' R s') (fun e s'=>R (.error e) s') s:=by
 have sf:=Heap.lt_size hS
 have vg:=Heap.lt_size ho
 have key:∀ (h:Heap) (yJ tk:Nat),(∀ b o,b≠S->(s.heap.push {cls:=.type "dict_itemiterator",data:=.fields #[.none,.bool false,.ref d,.int 0 0,.int es.size 0,.int ep 0,.none,.none]}).get? b=some o->h.get? b=some o)->
   h.get? S=some {cls:=.type "list",data:=.seq #[] yJ}->codeAny (model prog w) A (.builtin "list.extend.loop" ⟨[.ref S,.ref s.heap.objs.size,qE],[]⟩) R {s with heap:=h,toks:=tk}:=by
  intro h yJ tk hk mr
  have hI:=hk s.heap.objs.size _ (Nat.ne_of_gt sf) (Heap.get?_push_size _ rfl)
  exact qD (s:=s) (h₁:=s.heap) (od:=od) hh sf By (Nat.ne_of_lt vg) hn bT qE (fun h' a8 acc c as DV vb hl hG fz=>hR h' a8 acc c as (fun b o hb e=>DV b o hb (Nat.ne_of_lt (Heap.lt_size e)) e) vb hl hG fz)
   es.size 0 h tk yJ #[] [] (Nat.sub_zero _) (Nat.zero_le _) (.inl ⟨.none,.none,hI⟩) (hk d _ By (Heap.get?_push_of_some _ ho)) (fun b o hb _ e=>hk b o hb (Heap.get?_push_of_some _ e)) mr rfl rfl
   ⟨List.Pairwise.nil,(fun _ ha=>nomatch ha),(fun j a hj=>by simp at hj)⟩ (Heap.lt_size hI)
 unfold Builtin.List.listExtendWith
 refine wpAny_bind (wpAny_typeOf (T:="dict_items") hv.typeIs ?_)
 have h1:Builtin.List.listSameRef (.ref S) (.ref r)=false:=by simp [Builtin.List.listSameRef,Ji]
 have BC:(Value.type "dict_items"==Value.type "list")=false:=by decide
 have h3:(Value.type "dict_items"==Value.type "tuple")=false:=by decide
 simp only [h1,BC,h3,Bool.or_false,Bool.false_eq_true,if_false]
 refine wpAny_bind (qG hv ho bT ?_)
 have mr:=Heap.get?_push_of_some {cls:=.type "dict_itemiterator",data:=.fields #[.none,.bool false,.ref d,.int 0 0,.int es.size 0,.int ep 0,.none,.none]} hS
 refine wpAny_bind (wpAny_holding (kdx_hint (let ⟨o,ho,hc,_⟩:=hv;⟨o,Heap.get?_push_of_some _ ho,hc⟩) ?_))
 refine wpAny_ite_split (fun _=>?_) (fun _=>wpAny_pure ⟨plainId_quiet PySem.F.plain_extend_loop _,key _ _ _ (fun b o _ e=>e) mr⟩)
 refine wpAny_bind (wpAny_rule ?_)
 refine wpAny_bind ?_
 show wpAny _ _ (updateSeq S (·.push .none)>>=fun _=>updateSeq S (·.pop)) _ _ _
 refine wpAny_bind (wpAny_updateSeq mr rfl ?_)
 have yK:=Heap.get?_update_self (Obj.mapSeq (·.push Value.none)) mr rfl
 refine wpAny_updateSeq (hz:=by seq_fits) yK rfl ?_
 have DW:=Heap.get?_update_self (Obj.mapSeq (·.pop)) yK rfl
 refine wpAny_pure ⟨plainId_quiet PySem.F.plain_extend_loop _,key _ _ _ (fun b o hb e=>?_) DW⟩
 exact (Heap.get?_update_other _ _ (Ne.symm hb)).trans ((Heap.get?_update_other _ _ (Ne.symm hb)).trans e)
end
section
variable {prog:Program}{w:World}{A:Around}{E:Value->Shared->Prop}{s:Shared}{a kS:Addr}{b:Bool}{vs:List Value}{kz:List Int}{keys:Array Value}{e e1:Nat}{P:PySem.Fin->Shared->Prop}
theorem qH {st:SortSt}(nk:s.heap.get? kS=some (seqObj "list" keys e)) (na:s.heap.get? a=some (seqObj "list" #[] e1)) (BD:kS≠a)
  (hk:IntsAre keys.toList kz) (bZ:kz.length=vs.length) (dk:vs.length < 64) (hp:(PyProof.Rows.arrOf st).Perm (keys.zip vs.toArray)) (hs:SortedTo (PyProof.Rows.arrOf st) (PyProof.Rows.arrOf st).size) (Jj:failedOf st=none)
  (h:∀ h1 h' out c,Heap.SameBut kS s.heap h1->Heap.SameBut a h1 h'->h'.get? a=some (seqObj "list" out c)->KskOut b kz vs out.toList->P (.done (.ret .none)) {s with heap:=h'}):
  wpAny (model prog w) A (ksk_tail a b e1 (.ref kS) st) P E s:=by
 have ax:keys.size=vs.length:=by
  have h1:=hk.length
  rw [Array.length_toList] at h1
  lia
 have C3:(PyProof.Rows.arrOf st).size=vs.length:=by rw [hp.size_eq,Array.size_zip,ax,List.size_toArray,Nat.min_self]
 have C4:(if b then ((PyProof.Rows.arrOf st).map (·.2)).reverse else (PyProof.Rows.arrOf st).map (·.2)).size=vs.length:=by
  cases b with
  | false=>simp only [Bool.false_eq_true,if_false,Array.size_map];exact C3
  | true=>simp only [if_true,Array.size_reverse,Array.size_map];exact C3
 have s1:=Heap.SameBut.update s.heap kS (Obj.mapSeq fun _=>(#[]:Array Value))
 have BE:(s.heap.update kS (Obj.mapSeq fun _=>(#[]:Array Value))).get? a=some (seqObj "list" #[] e1):=(s1.2 a BD.symm).trans na
 unfold ksk_tail
 try dsimp only
 refine wpAny_bind (listUpdate_at nk rfl ?_ (by rw [ax,sizeLine_eq];lia) (Nat.zero_le _))
 refine wpAny_bind (wpAny_letGo ?_)
 generalize s.heap.update kS (Obj.mapSeq fun _=>(#[]:Array Value))=h1 at s1 BE
 refine wpAny_bind (seqEpoch_at BE rfl ?_)
 generalize hO:(if b then ((PyProof.Rows.arrOf st).map (·.2)).reverse else (PyProof.Rows.arrOf st).map (·.2))=O at C4
 have s2:=Heap.SameBut.update h1 a (Obj.mapSeq fun _=>O)
 obtain ⟨c2,yL⟩:∃ c2,(h1.update a (Obj.mapSeq fun _=>O)).get? a=some (seqObj "list" O c2):=⟨_,get?_update_seq BE fun _=>O⟩
 refine wpAny_bind (listUpdate_at BE rfl ?_ (Nat.zero_le _) (Nat.le_trans (Nat.le_of_eq C4) (by rw [sizeLine_eq];lia)))
 rw [Jj]
 simp only [bne_self_eq_false,Bool.false_eq_true,if_false]
 refine wpAny_pure (h _ _ _ c2 s1 s2 yL ?_)
 rw [<- hO]
 exact ksk_out hk hp hs
theorem BF (nk : s.heap.get? kS = some (seqObj "list" keys e)) (na : s.heap.get? a = some (seqObj "list" #[] e1)) (BD : kS ≠ a)
    (hk : IntsAre keys.toList kz) (bZ : kz.length = vs.length) (dk : vs.length < 64)
    (h : ∀ h1 h' out c, Heap.SameBut kS s.heap h1 -> Heap.SameBut a h1 h' -> h'.get? a = some (seqObj "list" out c) -> KskOut b kz vs out.toList -> P (.done (.ret .none)) { s with heap := h' }) :
    wpAny (model prog w) A (ksk_end a b vs.toArray e1 (.ref kS) keys) P E s := by
  have ax : keys.size = vs.length := by
    have h1 := hk.length
    rw [Array.length_toList] at h1
    lia
  have DX : (keys.zip vs.toArray).size = vs.length := by rw [Array.size_zip, ax, List.size_toArray, Nat.min_self]
  have step : ∀ t : Sem PySem.Fin, wpAny (model prog w) A t P E s -> wpAny (model prog w) A (if b = true then (do let _ <- rule "list.sort.reverse"; t) else t) P E s := by
    intro t ht
    split
    · exact wpAny_bind (wpAny_rule ht)
    · exact ht
  have oI : (if b = true then (keys.zip vs.toArray).reverse else keys.zip vs.toArray).Perm (keys.zip vs.toArray) := by
    cases b with
    | false => exact Array.Perm.refl _
    | true => exact Array.perm_iff_toList_perm.mpr (by rw [if_pos rfl, Array.toList_reverse]; exact List.reverse_perm _)
  unfold ksk_end
  try dsimp only
  refine step _ ?_
  by_cases h2 : vs.toArray.size < 2
  · rw [if_pos h2, if_pos h2]
    refine wpAny_bind (wpAny_pure ?_)
    rw [StateT.run_pure]
    refine wpAny_bind (wpAny_pure ?_)
    try dsimp only
    refine qH (st := SortSt.mk' general' (if b = true then (keys.zip vs.toArray).reverse else keys.zip vs.toArray) #[] 7 none) nk na BD hk bZ dk oI ?_ rfl h
    intro i j BG hj
    have wb : j < (if b = true then (keys.zip vs.toArray).reverse else keys.zip vs.toArray).size := hj
    rw [oI.size_eq, DX] at wb
    rw [List.size_toArray] at h2
    have : i = j := by lia
    subst this
    exact Int.le_refl _
  · rw [if_neg h2, if_neg h2]
    rw [List.size_toArray] at h2
    rw [ksk_kind hk (by rw [ax]; lia)]
    refine wpAny_bind (wpAny_pure ?_)
    refine wpAny_bind (wpAny_mono (wpS_sortRuns (a₀ := keys.zip vs.toArray) (st := SortSt.mk' oneType' (if b = true then (keys.zip vs.toArray).reverse else keys.zip vs.toArray) #[] 7 none)
      (Q := fun _ af => (PyProof.Rows.arrOf af).Perm (keys.zip vs.toArray) /\ failedOf af = none /\ SortedTo (PyProof.Rows.arrOf af) (keys.zip vs.toArray).size)
      (ksk_intKeys hk) ⟨oI, rfl, rfl, rfl⟩ (by rw [DX]; lia) (by rw [DX]; exact dk) fun af a1 a2 a3 => ⟨a1, a2, a3⟩) ?_ fun _ _ e => e)
    rintro ⟨⟨⟩, af⟩ s' ⟨rfl, hp, hf, hs⟩
    try dsimp only
    exact qH nk na BD hk bZ dk hp (by rw [hp.size_eq]; exact hs) hf h
end
section
variable {M:Model}{Γ:Ctx}{X:Value->Pos->Shared->Prop}
theorem qI {body:Value->PUnit->Sem (ForInStep PUnit)}{Q:PUnit->Pos->Shared->Prop}(I:Nat->Pos->Shared->Prop):∀ (vs:List Value) (i:Nat) (p:Pos) (s:Shared),I i p s->
  (∀ j x p s',vs[j]?=some x->I (i+j) p s'->wp M Γ (body x ⟨⟩) (fun r p' gr=>r=.yield ⟨⟩/\I (i+j+1) p' gr) X p s')->
  (∀ p s',I (i+vs.length) p s'->Q ⟨⟩ p s')->wp M Γ (forIn vs PUnit.unit body) Q X p s
 | [],i,p,s,hI,_,done=>by
  rw [List.forIn_nil]
  show wp M Γ (.pure _) Q X p s
  rw [Sem.wp_pure]
  exact done p s (by simpa using hI)
 | x::vs,i,p,s,hI,step,done=>by
  rw [List.forIn_cons,Sem.wp_bind']
  refine Sem.wp_mono M Γ _ (fun r p' s' h'=>?_) (fun _ _ _ h=>h) _ _ (step 0 x p s (by simp) hI)
  obtain ⟨rfl,lq⟩:=h'
  show wp M Γ (forIn vs PUnit.unit body) Q X p' s'
  refine qI I vs (i+1) p' s' lq (fun j y rG gr hy hJ=>?_) fun rG gr hd=>done rG gr ?_
  ·have e:i+(j+1)=i+1+j:=by lia
   have h1:=step (j+1) y rG gr (by simpa using hy) (by rw [e];exact hJ)
   rw [e] at h1
   exact h1
  ·have e:i+(x::vs).length=i+1+vs.length:=by rw [List.length_cons];lia
   rw [e]
   exact hd
end
section
variable {E:En}{V:Heap}{U:Nat}{m:Mm}{n:Nat}{h h':Heap}
theorem Rep.keepAll {k n':Nat}(r:Rep E V U m n h) (r':Rep E h k m n' h') (b:Addr) (o:Obj) (e:h.get? b=some o):h'.get? b=some o:=by
 by_cases z:∃ i o',Y m i=some (b,o')
 ·obtain ⟨i,o',q⟩:=z
  have e1:=r.own i b o' q
  rw [e] at e1
  cases e1
  exact r'.own i b o q
 ·exact r'.keep b o e fun i a o' _ hm hb=>z ⟨i,o',hb▸hm⟩
theorem Rep.out (r:Rep E V U m n h) {c:Addr}(s:Heap.SameBut c h h') (hc:V.objs.size<=c) (hm:∀ i o,Y m i≠some (c,o)) (ht:E.T.get c=none):Rep E V U m n h':=by
 refine ⟨s.1.trans r.size,fun a o e q=>?_,fun i a o q=>?_,r.apart,r.off,fun b o q z=>?_,r.start,r.fresh,r.old,r.lowT⟩
 ·refine (s.2 a ?_).trans (r.base a o e q)
  rintro rfl
  rw [ht] at e
  cases e
 ·refine (s.2 a ?_).trans (r.own i a o q)
  rintro rfl
  exact hm _ _ q
 ·refine (s.2 b ?_).trans (r.keep b o q z)
  rintro rfl
  exact absurd (Heap.lt_size q) (Nat.not_lt.mpr hc)
end
section
variable {d:Drawn}{os:OsState}{w:World}{b1 b2:Bool}{V:Heap}{U:Nat}
noncomputable abbrev C5 (qd qi:Nat):Obj:=⟨.ref 867,some (qd+1109),.plain,#[some (.ref (qi+1109))]⟩
noncomputable abbrev GE (tq:Nat):Obj:=⟨.type "tuple",none,.seq #[.int 1 tq] 0,#[]⟩
noncomputable abbrev oJ (q qd qi tq:Nat):Mm:=[(q+1109,C5 qd qi),(qd+1109,aA),(qi+1109,GE tq)]
noncomputable abbrev yM (a0 f0:Args) (f1:FN) (lb:Bool) (f2:FL) (g2:WL) (f3 f4:FN) (p0 p1 p2 p3 p4 p5:Pos):Ctx:=⟨.builtin "list.sort" a0,none,none,[(srt f0,p0),(fn f1,p1),(lp lb f2 g2,p2),(fn f3,p3),(fn f4,p4),(CC,p5)],none⟩
variable {a0 f0:Args}{f1 f3 f4:FN}{lb:Bool}{f2:FL}{g2:WL}{p0 p1 p2 p3 p4 p5:Pos}
noncomputable def yN (o:Obj):Nat:=match o.data with | .seq xs _=>xs.size | _=>0
noncomputable abbrev Ag:=fun a b c d=>bb (.int a b) (.int c d)
theorem BH {q qd qi tq:Nat}{m:Mm}{is:List Nat}(es:aZ m is=oJ q qd qi tq) (nd:is.Nodup) (hl:is.length=3) {h:Heap}{g:Array GenState}{j tk:Nat}{p:Pos}(hg:AllBare g) (rep:Rep (Ad w b1 b2) V U m (j+1109) h)
  {a:Nat}{kv vv:Int}{t1 t2:Tok}(ha:h.get? a=some (Ag kv t1 vv t2)) (ht:g8 a (Ad w b1 b2).mu=true∨(Ad w b1 b2).T.get a=none):
  wp (AK w b1 b2) (yM a0 f0 f1 lb f2 g2 f3 f4 p0 p1 p2 p3 p4 p5) (call (Aa q) [.ref a])
   (fun v _ s'=>v=.int vv t2/\∃ h' g',s'=⟨h',g',d,tk+8,os⟩/\AllBare g'/\Rep (Ad w b1 b2) V U m (j+1+1109) h'/\∀ b o,h.get? b=some o->h'.get? b=some o) (fun _ _ _=>False) p ⟨h,g,d,tk,os⟩:=by
 unfold call runValue
 rw [Sem.wp_bind']
 unfold PySem.run
 rw [Sem.wp_call]
 have r0:Rep (E2 (W2 w b1 b2)) h 4 [(q+1109,C5 qd qi),(qd+1109,aA),(qi+1109,GE tq),(a,bb (.int kv t1) (.int vv t2))] (j+1109) h:=by
  have z:=rep.subV is es nd (by rw [hl];rfl) (a:=a) (o₀:=bb (.int kv t1) (.int vv t2)) (fun i x e=>by
   rcases i with _ | _ | _ | i
   ·cases e;exact fun z=>nomatch z
   ·cases e;exact fun z=>absurd (show (0:Nat)=2 from congrArg yN z) (by decide)
   ·cases e;exact fun z=>absurd (show (1:Nat)=2 from congrArg yN z) (by decide)
   ·cases e) ha ht
  rw [hl] at z
  exact z
 show wpCode (Mo (E2 (W2 w b1 b2))) ⟨.call (.ref (q+1109)) ⟨[.ref a],[]⟩,none,none,(.builtin "list.sort" a0,p)::[(srt f0,p0),(fn f1,p1),(lp lb f2 g2,p2),(fn f3,p3),(fn f4,p4),(CC,p5)],none⟩ _ p _
 refine bc (E:=E2 (W2 w b1 b2)) (V:=h) (U:=4) hg r0 ?_
 refine ky p (Nat.le_refl _) fun p2 h2 BI ag ac=>?_
 have r3:Rep (E2 (W2 w b1 b2)) h 3 (oJ q qd qi tq) (j+1110) h2:=Rep.forget (m:=oJ q qd qi tq) ac rfl ha
 have r1:Rep (E2 (W2 w b1 b2)) h 3 (oJ q qd qi tq) (j+1109) h:=by
  have z:=rep.sub is (aE (by rw [es,hl];rfl)) nd
  rw [es,hl] at z
  exact z
 have keep:=r1.keepAll r3
 exact ⟨rfl,h2,BI,rfl,ag,rep.grow (r3.size.trans (by lia)) (by lia) keep,keep⟩
end
theorem dB {M:Model}{Γ:Ctx}{α β:Type}{t:Sem α}{f:α->Sem β}{Q:β->Pos->Shared->Prop}{X:Value->Pos->Shared->Prop}{p:Pos}{s:Shared}
  (h:wpAny M (fb Γ) t (fun a s'=>∀ p,wp M Γ (f a) Q X p s') (fun _ _=>False) s):wp M Γ (t>>=f) Q X p s:=by
 rw [Sem.wp_bind']
 exact Sem.wp_mono _ _ _ (fun a p' s' h'=>h' p') (fun _ _ _ h'=>h'.elim) _ _ (aR h p)
section
variable {d:Drawn}{os:OsState}{w:World}{b1 b2:Bool}{V:Heap}{U:Nat}
variable {a0 f0:Args}{f1 f3 f4:FN}{lb:Bool}{f2:FL}{g2:WL}{p0 p1 p2 p3 p4 p5:Pos}
theorem yO {q qd qi tq:Nat}{m:Mm}{is:List Nat}(es:aZ m is=oJ q qd qi tq) (nd:is.Nodup) (hl:is.length=3) {h:Heap}{g:Array GenState}{j tk S kS e1:Nat}{p:Pos}{xs:Array Value}{L:KV}(hg:AllBare g)
  (rep:Rep (Ad w b1 b2) V U m (j+1109) h) (hP:c5 (Ad w b1 b2) h xs L) (hn:L.length < 64)
  (yP:h.get? kS=some (seqObj "list" #[] 0)) (hc:V.objs.size<=kS) (hm:∀ i o,Y m i≠some (kS,o)) (ht:(Ad w b1 b2).T.get kS=none)
  (hS:h.get? S=some (seqObj "list" #[] e1)) (GF:kS≠S) {P:PySem.Fin->Pos->Shared->Prop}
  (fin:∀ p h2 h' g' out c,AllBare g'->Rep (Ad w b1 b2) V U m (j+xs.size+1109) h2->Heap.SameBut S h2 h'->h'.get? S=some (seqObj "list" out c)->KskOut true (L.map (·.2)) xs.toList out.toList->P (.done (.ret .none)) p ⟨h',g',d,tk+8 * xs.size,os⟩):
  wp (AK w b1 b2) (yM a0 f0 f1 lb f2 g2 f3 f4 p0 p1 p2 p3 p4 p5) (ksk_rest S (Aa q) true xs e1 (.ref kS)) P (fun _ _ _=>False) p ⟨h,g,d,tk,os⟩:=by
 unfold ksk_rest
 refine dB (wpAny_rule fun p=>?_)
 rw [<- Array.forIn_toList,Sem.wp_bind']
 refine qI (fun i _ s'=>∃ h' g' kA e,s'=⟨h',g',d,tk+8 * i,os⟩/\AllBare g'/\Rep (E2 (W2 w b1 b2)) V U m (j+i+1109) h'/\h'.get? kS=some (seqObj "list" kA e)/\IntsAre kA.toList ((L.map (·.2)).take i)/\∀ b o,b≠kS->h.get? b=some o->h'.get? b=some o)
  xs.toList 0 p _ ⟨h,g,#[],0,rfl,hg,rep,yP,by simpa using IntsAre.nil,fun _ _ _ e=>e⟩ ?step ?done
 case step=>
  rintro i x p' s' hx ⟨h',g',kA,e,rfl,bn,r',nk,hk,kept⟩
  simp only [Nat.zero_add] at hk r' ⊢
  rw [Array.getElem?_toList] at hx
  have hi:i < L.length:=by rw [<- hP.1];exact (Array.getElem?_eq_some_iff.mp hx).1
  obtain ⟨a,t1,t2,ea,ha,rv⟩:=hP.2 i L[i] (List.getElem?_eq_getElem hi)
  rw [hx] at ea
  cases ea
  have hz:kA.size<=L.length:=by
   have h1:=hk.length
   rw [Array.length_toList,List.length_take,List.length_map] at h1
   lia
  have Jk:a≠kS:=fun z=>by rw [z,yP] at ha;exact absurd (show (0:Nat)=2 from congrArg yN (Option.some.inj ha)) (by decide)
  rw [Sem.wp_bind',Sem.wp_attempt]
  refine Sem.wp_mono _ _ _ (fun v p2 s2 he=>?_) (fun _ _ _ z=>z.elim) _ _ (BH es nd hl bn r' (kept a _ Jk ha) rv)
  obtain ⟨rfl,h2,BI,rfl,ag,r2,k2⟩:=he
  dsimp only
  have GG:=k2 _ _ nk
  have s1:=Heap.SameBut.update h2 kS (Obj.mapSeq (·.push (.int L[i].2 t2)))
  obtain ⟨c2,yL⟩:∃ c2,(h2.update kS (Obj.mapSeq (·.push (.int L[i].2 t2)))).get? kS=some (seqObj "list" (kA.push (.int L[i].2 t2)) c2):=⟨_,get?_update_seq GG (·.push (.int L[i].2 t2))⟩
  have ek:(L.map (·.2)).take (i+1)=(L.map (·.2)).take i++[L[i].2]:=by rw [List.take_add_one,List.getElem?_map,List.getElem?_eq_getElem hi];rfl
  have e2:(kA.push (Value.int L[i].2 t2)).toList=kA.toList++[Value.int L[i].2 t2]:=by simp
  refine dB (listUpdate_at GG rfl ?_ (by rw [sizeLine_eq];lia) (Nat.le_trans (Nat.le_of_eq (Array.size_push ..)) (by rw [sizeLine_eq];lia)))
  intro p3
  show wp _ _ (.pure _) _ _ _ _
  rw [Sem.wp_pure]
  refine ⟨rfl,_,BI,kA.push (.int L[i].2 t2),c2,?_,ag,r2.out s1 hc hm ht,yL,by rw [e2,ek];exact ksk_snoc hk,fun b o hb z=>(s1.2 b hb).trans (k2 b o (kept b o hb z))⟩
  rfl
 case done=>
  rintro p' s' ⟨h',g',kA,e,rfl,bn,r',nk,hk,kept⟩
  have DV:IntsAre kA.toList (L.map (·.2)):=by
   have e3:(L.map (·.2)).take (0+xs.toList.length)=L.map (·.2):=List.take_of_length_le (by rw [List.length_map,Array.length_toList (xs:=xs),hP.1];lia)
   rw [e3] at hk
   exact hk
  rw [Nat.zero_add,Array.length_toList] at r' ⊢
  refine dB (listItems_at nk rfl ?_)
  intro p3
  have bZ:(L.map (·.2)).length=xs.toList.length:=by rw [List.length_map,Array.length_toList (xs:=xs),hP.1]
  refine Sem.wp_mono _ _ _ (fun fi p' s' h'=>h' p') (fun _ _ _ h'=>h'.elim) _ _ (aR (BF (vs:=xs.toList) (P:=fun fi s'=>∀ p,P fi p s') (E:=fun _ _=>False) nk (kept _ _ GF.symm hS) GF DV bZ (by rw [Array.length_toList (xs:=xs),hP.1];exact hn)
   fun h1 h3 out c s1 s2 ho ko p=>?_) p3)
  exact fin p h1 h3 g' out c bn (r'.out s1 hc hm ht) s2 ho ko
end
theorem mt:∀ (m:Mm) (i:Nat) (o o':Obj),aK (aK m i o) i o'=aK m i o'
 | [],_,_,_=>rfl
 | _::_,0,_,_=>rfl
 | x::m,i+1,o,o'=>congrArg (x::·) (mt m i o o')
theorem sk {α β:Type}{f:α->β}{a b:List β}(p:a.Perm b):∀ zs:List α,b=zs.map f->∃ BJ:List α,BJ.Perm zs/\a=BJ.map f:=by
 induction p with
 | nil=>exact fun zs e=>⟨zs,List.Perm.refl _,e⟩
 | cons x p ih=>
  intro zs e
  cases zs with
  | nil=>cases e
  | cons z zs=>
   injection e with e1 e2
   obtain ⟨BJ,h1,h2⟩:=ih zs e2
   exact ⟨z::BJ,h1.cons z,by rw [List.map_cons,<- e1,<- h2]⟩
 | swap x y l=>
  intro zs e
  rcases zs with _ | ⟨z,_ | ⟨z',zs⟩⟩
  ·cases e
  ·cases e
  ·injection e with e1 e2
   injection e2 with e2 e3
   exact ⟨z'::z::zs,List.Perm.swap z z' zs,by rw [List.map_cons,List.map_cons,<- e1,<- e2,<- e3]⟩
 | trans p q Jl Jm=>
  intro zs e
  obtain ⟨z1,h1,h2⟩:=Jm zs e
  obtain ⟨z2,h3,h4⟩:=Jl z1 h2
  exact ⟨z2,h3.trans h1,h4⟩
noncomputable def gY (L:KV):Prop:=L.Pairwise fun p q=>q.2<=p.2
theorem kQ {tl:Mm}{xs out:Array Value}{L:KV}(hP:gO tl xs L) (ko:KskOut true (L.map (·.2)) xs.toList out.toList):∃ L':KV,L'.Perm L/\gY L'/\gO tl out L':=by
 obtain ⟨ps,h1,h2,h3⟩:=ko
 have e:(L.map (·.2)).zip xs.toList=(L.zip xs.toList).map fun z=>(z.1.2,z.2):=by
  clear h1 h2 h3
  have:∀ (L:KV) (ys:List Value),(L.map (·.2)).zip ys=(L.zip ys).map fun z=>(z.1.2,z.2):=by
   intro L
   induction L with
   | nil=>intro ys;rfl
   | cons x L ih=>intro ys;cases ys with | nil=>rfl | cons y ys=>exact congrArg _ (ih ys)
  exact this L xs.toList
 obtain ⟨zs,g1,g2⟩:=sk h1 _ e
 subst g2
 have el:(L.zip xs.toList).map (·.1)=L:=by
  have:∀ (L:KV) (ys:List Value),ys.length=L.length->(L.zip ys).map (·.1)=L:=by
   intro L
   induction L with
   | nil=>intro ys _;rfl
   | cons x L ih=>intro ys h;cases ys with | nil=>cases h | cons y ys=>exact congrArg _ (ih ys (Nat.succ.inj h))
  exact this L xs.toList (by rw [Array.length_toList (xs:=xs),hP.1])
 refine ⟨zs.map (·.1),by have:=g1.map (·.1);rw [el] at this;exact this,?_,?_,?_⟩
 ·rw [List.pairwise_map] at h3
  exact List.pairwise_map.mpr h3
 ·rw [<- Array.length_toList,h2,List.length_map,List.length_map,List.length_map]
 ·intro j x ex
  rw [List.getElem?_map] at ex
  obtain ⟨z,ez,rfl⟩:=Option.map_eq_some_iff.mp ex
  have hz:z∈L.zip xs.toList:=g1.mem_iff.mp (List.mem_of_getElem? ez)
  obtain ⟨i,hi⟩:=List.mem_iff_getElem?.mp hz
  rw [List.getElem?_zip_eq_some] at hi
  obtain ⟨a,t,u,e1,e2⟩:=hP.2 i z.1 hi.1
  refine ⟨a,t,u,?_,e2⟩
  rw [<- Array.getElem?_toList,h2,List.getElem?_map,List.getElem?_map,ez]
  have:=hi.2
  rw [Array.getElem?_toList,e1] at this
  show some z.2=_
  rw [<- this]
section
variable {d:Drawn}{os:OsState}{w:World}{b1 b2:Bool}{V:Heap}{U:Nat}
variable {a0 f0:Args}{f1 f3 f4:FN}{lb:Bool}{f2:FL}{g2:WL}{p0 p1 p2 p3 p4 p5:Pos}
theorem yQ {q qd qi tq:Nat}{m:Mm}{is:List Nat}{si S c0:Nat}{xs:Array Value}{L:KV}(DY:∀ o,aZ (aK m si o) is=oJ q qd qi tq) (nd:is.Nodup) (hl:is.length=3) (hS:Y m si=some (S,ad xs c0))
  {h:Heap}{g:Array GenState}{j tk:Nat}{p:Pos}(hg:AllBare g) (rep:Rep (Ad w b1 b2) V U m (j+1109) h) (hP:c5 (Ad w b1 b2) h xs L) (hn:L.length < 64) {P:PySem.Fin->Pos->Shared->Prop}
  (fin:∀ p h' g' out c,AllBare g'->KskOut true (L.map (·.2)) xs.toList out.toList->Rep (Ad w b1 b2) V U (aK m si (ad out c)) (j+xs.size+2+1109) h'->P (.done (.ret .none)) p ⟨h',g',d,tk+8 * xs.size,os⟩):
  wp (AK w b1 b2) (yM a0 f0 f1 lb f2 g2 f3 f4 p0 p1 p2 p3 p4 p5) (ksk_tree S (Aa q) true) P (fun _ _ _=>False) p ⟨h,g,d,tk,os⟩:=by
 have ho:h.get? S=some (seqObj "list" xs c0):=rep.own _ _ _ hS
 have sf:=Heap.lt_size ho
 have ax:h.objs.size=j+1109:=rep.size
 have s1:=Heap.SameBut.update h S (Obj.mapSeq fun _=>(#[]:Array Value))
 obtain ⟨e1,vh⟩:∃ e1,(h.update S (Obj.mapSeq fun _=>(#[]:Array Value))).get? S=some (seqObj "list" #[] e1):=⟨_,get?_update_seq ho fun _=>#[]⟩
 have r1:Rep (E2 (W2 w b1 b2)) V U (aK m si (ad #[] e1)) (j+1109) (h.update S (Obj.mapSeq fun _=>(#[]:Array Value))):=
  rep.chg hS vh (by rw [Heap.size_update];exact ax) (Nat.le_refl _) fun b o hb e=>(s1.2 b hb).trans e
 have r2:Rep (E2 (W2 w b1 b2)) V U (aK m si (ad #[] e1)) (j+2+1109) (((h.update S (Obj.mapSeq fun _=>(#[]:Array Value))).push (seqObj "tuple" xs 0)).push (seqObj "list" #[] 0)):=
  r1.grow (by rw [size_push',size_push',Heap.size_update,ax]) (by lia) fun b o e=>Heap.get?_push_of_some _ (Heap.get?_push_of_some _ e)
 have yP:((h.update S (Obj.mapSeq fun _=>(#[]:Array Value))).push (seqObj "tuple" xs 0)).objs.size=j+1+1109:=by rw [size_push',Heap.size_update,ax]
 unfold ksk_tree
 refine dB (listItems_at ho rfl fun p=>?_)
 refine dB (listUpdate_at ho rfl (fun p=>?_) (by rw [hP.1,sizeLine_eq];lia) (Nat.zero_le _))
 refine dB (seqEpoch_at vh rfl fun p=>?_)
 refine dB (wpAny_newTuple (fun p=>?_) (by rw [Array.length_toList (xs:=xs),hP.1,sizeLine_eq];lia))
 refine dB (wpAny_newList (fun p=>?_) (Nat.zero_le _))
 rw [Sem.wp_holding]
 have k1:∀ b o,b≠S->h.get? b=some o->(((h.update S (Obj.mapSeq fun _=>(#[]:Array Value))).push (seqObj "tuple" xs 0)).push (seqObj "list" #[] 0)).get? b=some o:=fun b o hb e=>Heap.get?_push_of_some _ (Heap.get?_push_of_some _ ((s1.2 b hb).trans e))
 show wp _ _ (ksk_rest S (.ref (q+1109)) true xs e1 (.ref ((h.update S (Obj.mapSeq fun _=>(#[]:Array Value))).push (seqObj "tuple" xs.toList.toArray 0)).objs.size)) _ _ p ⟨((h.update S (Obj.mapSeq fun _=>(#[]:Array Value))).push (seqObj "tuple" xs.toList.toArray 0)).push (seqObj "list" #[] 0),g,d,tk,os⟩
 rw [Array.toArray_toList,yP]
 refine yO (is:=is) (DY _) nd hl hg r2 ⟨hP.1,fun i x e=>?_⟩ hn (by have:=Heap.get?_push_size ((h.update S (Obj.mapSeq fun _=>(#[]:Array Value))).push (seqObj "tuple" xs 0)) (o:=seqObj "list" #[] 0) rfl;rw [yP] at this;exact this) ?_ ?_ ?_ (Heap.get?_push_of_some _ (Heap.get?_push_of_some _ vh)) (by lia) ?_
 ·obtain ⟨a,t,u,z1,z2,z3⟩:=hP.2 i x e
  exact ⟨a,t,u,z1,k1 a _ (fun z=>by rw [z,ho] at z2;exact absurd (show (false:Bool)=true from congrArg c6 (Option.some.inj z2)) (by decide)) z2,z3⟩
 ·have:=rep.start;lia
 ·intro i o e
  have:=r1.lt e
  lia
 ·exact rep.lowT _ (by lia)
 ·intro p h2 h' g' out c bn r3 s2 hc ko
  refine fin p h' g' out c bn ko ?_
  have e:aK m si (ad out c)=aK (aK m si (ad #[] e1)) si (ad out c):=by rw [mt]
  rw [e]
  have vb:Y (aK m si (ad #[] e1)) si=some (S,ad #[] e1):=by rw [bN,if_pos rfl,hS];rfl
  have r4:=r3.chg vb hc (by rw [s2.1];exact r3.size) (Nat.le_refl _) fun b o hb e=>(s2.2 b hb).trans e
  have:j+2+xs.size+1109=j+xs.size+2+1109:=by lia
  rw [<- this]
  exact r4
end
section
variable {prog:Program}{w:World}{A:Around}{s:Shared}{es:Array DictEntry}{ep:Nat}{od:Obj}{Q:List Value->Shared->Prop}{E:Value->Shared->Prop}
theorem mv {v dd : Nat} (hh : A.handled = none) (hv : s.heap.IsItemsView v dd) (ho : s.heap.get? dd = some od) (bT : od.data = .dict es ep) (hn : es.size <= sizeLine)
    (h : ∀ h' tk acc c as, (∀ b o, s.heap.get? b = some o -> h'.get? b = some o) -> h'.get? s.heap.objs.size = some (seqObj "list" acc c) -> as.length = es.size -> nI es.toList (s.heap.objs.size + 1) h' as -> acc.toList = as.map Value.ref -> Q acc.toList { s with heap := h', toks := tk }) :
    wpAny (model prog w) A (collect (.ref v)) Q E s := by
  have Jn : v < s.heap.objs.size := by obtain ⟨o, e, _⟩ := hv; exact Heap.lt_size e
  have vg := Heap.lt_size ho
  have H : ∀ R : Result -> Shared -> Prop, (∀ h' tk acc c as, (∀ b o, s.heap.get? b = some o -> h'.get? b = some o) -> h'.get? s.heap.objs.size = some (seqObj "list" acc c) -> as.length = es.size -> nI es.toList (s.heap.objs.size + 1) h' as -> acc.toList = as.map Value.ref -> R (.ok (.ret (.ref s.heap.objs.size))) { s with heap := h', toks := tk }) ->
      codeAny (model prog w) A (.builtin "proto.collect" ⟨[.ref v], []⟩) R s := by
    intro R hR
    refine codeAny_builtin entry_proto_collect' ?_
    show wpAny _ _ (do again (.builtin "list.__iadd__" ⟨[<- newList [], .ref v], []⟩)) _ _ s
    refine wpAny_bind (wpAny_newList (wpAny_pure ⟨Code.quiet_builtin _ (by decide +kernel), codeAny_builtin entry_list_iadd' ?_⟩))
    rw [Around.under_plainId (by decide +kernel)]
    show wpAny _ _ (Builtin.List.listExtendWith (.ref s.heap.objs.size) (.ref v) (.ref s.heap.objs.size)) _ _ { s with heap := s.heap.push (seqObj "list" #[] 0) }
    refine sj (R := R) (s := { s with heap := s.heap.push (seqObj "list" #[] 0) }) ?hh ?hv (Heap.get?_push_of_some _ ho) bT (Nat.ne_of_gt Jn) (Nat.ne_of_lt vg) (Heap.get?_push_size _ rfl) (.ref s.heap.objs.size) (fun h' tk acc c as hk hS hl hG fz => ?_) hn
    case hh => exact hh
    case hv =>
      obtain ⟨o, e, r⟩ := hv
      exact ⟨o, Heap.get?_push_of_some _ e, r⟩
    refine hR h' tk acc c as (fun b o e => hk b o (Nat.ne_of_lt (Heap.lt_size e)) (Heap.get?_push_of_some _ e)) hS hl ?_ fz
    have : (s.heap.push (seqObj "list" #[] 0)).objs.size = s.heap.objs.size + 1 := size_push' _ _
    rw [<- this]
    exact hG
  unfold collect
  refine wpAny_bind (wpAny_runValue (H _ fun h' tk acc c as hk hS hl hG fz => ?_))
  show wpAny (model prog w) A (do
      let o <- load s.heap.objs.size
      match o.data with
      | .seq xs _ => pure xs.toList
      | _ => unsupported "internal:collect") Q E { s with heap := h', toks := tk }
  refine wpAny_bind (wpAny_load hS ?_)
  exact wpAny_pure (h h' tk acc c as hk hS hl hG fz)
end
theorem sn {es:Array DictEntry}{lo:Nat}{h':Heap}{as:List Addr}{acc:Array Value}{L:KV}(hL:Tells es L) (hl:as.length=es.size) (hG:nI es.toList lo h' as) (fz:acc.toList=as.map Value.ref):
  ∃ tl:Mm,tl.map (·.1)=as/\gO tl acc L/\∀ p∈tl,h'.get? p.1=some p.2:=by
 have sp:∀ (j:Nat) (a:Addr),as[j]?=some a->∃ (x:Int×Int) (t u:Tok),L[j]?=some x/\h'.get? a=some (bb (.int x.1 t) (.int x.2 u)):=by
  intro j a ha
  obtain ⟨e,GH,nc⟩:=hG.pairs j a ha
  have hj:j < L.length:=by
   have h1:=(List.getElem?_eq_some_iff.mp GH).1
   have h2:=hL.size
   simp at h1;lia
  obtain ⟨x,hx⟩:∃ x,L[j]?=some x:=⟨L[j],List.getElem?_eq_getElem hj⟩
  obtain ⟨t,u,hu⟩:=hL.at hx
  have:e=⟨hashInt x.1,.int x.1 t,.int x.2 u⟩:=by
   have C6:es[j]?=some e:=by simpa using GH
   rw [hu] at C6;exact (Option.some.inj C6).symm
  rw [this] at nc
  exact ⟨x,t,u,hx,nc⟩
 have Jo:∃ tl:Mm,tl.map (·.1)=as/\∀ p∈tl,h'.get? p.1=some p.2:=by
  have vj:∀ a∈as,∃ o,h'.get? a=some o:=by
   intro a ha
   obtain ⟨j,hj⟩:=List.mem_iff_getElem?.mp ha
   obtain ⟨_,_,_,_,e⟩:=sp j a hj
   exact ⟨_,e⟩
  clear sp hl hG fz
  induction as with
  | nil=>exact ⟨[],rfl,fun _ h=>nomatch h⟩
  | cons a as ih=>
   obtain ⟨tl,h1,h2⟩:=ih fun b hb=>vj b (List.mem_cons_of_mem _ hb)
   obtain ⟨o,ho⟩:=vj a (List.mem_cons_self ..)
   refine ⟨(a,o)::tl,by rw [List.map_cons,h1],fun p hp=>?_⟩
   rcases List.mem_cons.mp hp with rfl | hp
   ·exact ho
   ·exact h2 p hp
 obtain ⟨tl,t1,t2⟩:=Jo
 refine ⟨tl,t1,⟨by rw [<- Array.length_toList,fz,List.length_map,hl,hL.size],fun j x e=>?_⟩,t2⟩
 have hj:j < as.length:=by rw [hl,hL.size];exact (List.getElem?_eq_some_iff.mp e).1
 obtain ⟨x',t,u,GI,Jp⟩:=sp j as[j] (List.getElem?_eq_getElem hj)
 rw [e] at GI
 cases GI
 refine ⟨as[j],t,u,?_,?_⟩
 ·rw [<- Array.getElem?_toList,fz,List.getElem?_map,List.getElem?_eq_getElem hj];rfl
 ·have hm:as[j]∈tl.map (·.1):=t1▸List.getElem_mem hj
  obtain ⟨p,hp,e3⟩:=List.mem_map.mp hm
  have:=t2 p hp
  rw [e3,Jp] at this
  obtain ⟨pa,po⟩:=p
  have e3:pa=as[j]:=e3
  cases this
  rw [<- e3];exact hp
section
variable {E:En}{V:Heap}{U n:Nat}{h:Heap}
theorem Rep.more2:∀ {tl m:Mm},Rep E V U m n h->(∀ p∈tl,∀ i o,Y m i≠some (p.1,o))->(tl.map (·.1)).Pairwise (· < ·)->(∀ p∈tl,h.get? p.1=some p.2/\V.objs.size<=p.1/\E.T.get p.1=none)->Rep E V U (bR m tl) n h
 | [],m,r,_,_,_=>by rw [kf];exact r
 | x::tl,m,r,hm,hp,hx=>by
  rw [<- vc]
  obtain ⟨h2,h3,h4⟩:=hx x (List.mem_cons_self ..)
  rw [List.map_cons,List.pairwise_cons] at hp
  refine Rep.more2 (r.know h2 h3 (hm x (List.mem_cons_self ..)) h4) (fun p BK i o q=>?_) hp.2 fun p BK=>hx p (List.mem_cons_of_mem _ BK)
  rw [av] at q
  split at q
  ·cases q
   exact absurd (hp.1 _ (List.mem_map_of_mem BK)) (Nat.lt_irrefl _)
  ·exact hm p (List.mem_cons_of_mem _ BK) i o q
theorem c5.mono {h':Heap}{xs:Array Value}{L:KV}(p:c5 E h xs L) (k:∀ b o,h.get? b=some o->h'.get? b=some o):c5 E h' xs L:=
 ⟨p.1,fun j x e=>by
  obtain ⟨a,t,u,e1,e2,e3⟩:=p.2 j x e
  exact ⟨a,t,u,e1,k a _ e2,e3⟩⟩
end
theorem ls {d:Drawn}{os:OsState}{w:World}{b1 b2:Bool}{j tk:Nat}{S c0 q:Nat}{xs:Array Value}{lb:Bool}{f0:Args}{f1 f3 f4:FN}{f2:FL}{g2:WL}{p0 p1 p2 p3 p4 p5:Pos}:
  Qv w b1 b2 lb d os fun W lb=>⟨E2 W,1,⟨(.call (.builtin "list.sort") ⟨[.ref S],[(Str.ofString "key",.ref (q+1109)),(Str.ofString "reverse",.bool true)]⟩),none,none,[(srt f0,p0),(fn f1,p1),(lp lb f2 g2,p2),(fn f3,p3),(fn f4,p4),(CC,p5)],none⟩,den (.call (.builtin "list.sort") ⟨[.ref S],[(Str.ofString "key",.ref (q+1109)),(Str.ofString "reverse",.bool true)]⟩),[(S,ad xs c0)],j+1109,tk,.e (.e (.again (.builtin "list.sort" ⟨[.ref S],[(Str.ofString "key",.ref (q+1109)),(Str.ofString "reverse",.bool true)]⟩)) [(S,(ad xs c0))] (j+1109) tk)⟩:=DJ 62 [1] [] [] (by kernel_rfl)
section
variable {L:KV}{S c0 dd di ep j q qd qi si tk tq v vi:Nat}{gy:Array DictEntry}{g:Array GenState}{h:Heap}{is:List Nat}{m tl:Mm}{od:Obj}{p:Pos}{xs:Array Value}
theorem nL (m:Mm) (y:Addr×Obj) (tl:Mm) (o:Obj):aK (bR (bh m y) tl) (ah m) o=bR (bh m (y.1,o)) tl:=by
 induction m with
 | nil=>rfl
 | cons z m ih=>exact congrArg (z::·) ih
theorem vk (m:Mm) (y:Addr×Obj) (tl:Mm):Y (bR (bh m y) tl) (ah m)=some y:=by
 induction m with
 | nil=>rfl
 | cons z m ih=>exact ih
theorem vm {y:Addr×Obj}{x:Addr×Obj}:∀ {i:Nat},Y m i=some x->Y (bR (bh m y) tl) i=some x:=by
 induction m with
 | nil=>intro i e;cases e
 | cons z m ih=>
  intro i e
  cases i with
  | zero=>exact e
  | succ i=>exact ih e
theorem yR {y:Addr×Obj}:∀ {K:Mm},is.map (Y m)=K.map some->is.map (Y (bR (bh m y) tl))=K.map some:=by
 induction is with
 | nil=>intro K e;exact e
 | cons i is ih=>
  intro K e
  cases K with
  | nil=>cases e
  | cons x K=>
   rw [List.map_cons,List.map_cons] at e ⊢
   injection e with e1 e2
   rw [vm e1,ih e2]
structure lr (L:KV) where
 out:Array Value
 e:Nat
 tl:Mm
 L':KV
 hp:L'.Perm L
 hd:gY L'
 hP:gO tl out L'
 D:Nat
 j:Nat
 tk:Nat
section
variable {d:Drawn}{os:OsState}{w:World}{b1 b2:Bool}{V:Heap}{U:Nat}
variable {a0 f0:Args}{f1 f3 f4:FN}{lb:Bool}{f2:FL}{g2:WL}{p0 p1 p2 p3 p4 p5:Pos}{R:Result->Shared->Prop}
theorem yS (DY:∀ o,aZ (aK m si o) is=oJ q qd qi tq) (nd:is.Nodup) (hl:is.length=3) (hS:Y m si=some (S,ad xs c0))
(hg:AllBare g) (rep:Rep (Ad w b1 b2) V U m (j+1109) h) (hP:c5 (Ad w b1 b2) h xs L) (hn:L.length < 64)
  (fin:∀ h' g' out c,AllBare g'->KskOut true (L.map (·.2)) xs.toList out.toList->Rep (Ad w b1 b2) V U (aK m si (ad out c)) (j+xs.size+2+1109) h'->R (.ok (.ret .none)) ⟨h',g',d,tk+8 * xs.size,os⟩):
  wpCode (AK w b1 b2) ⟨.call (.builtin "list.sort") ⟨[.ref S],[(Str.ofString "key",.ref (q+1109)),(Str.ofString "reverse",.bool true)]⟩,none,none,[(srt f0,p0),(fn f1,p1),(lp lb f2 g2,p2),(fn f3,p3),(fn f4,p4),(CC,p5)],none⟩ R p ⟨h,g,d,tk,os⟩:=by
 have es:aZ m [si]=[(S,ad xs c0)]:=eD (by rw [List.map_cons,hS];rfl)
 have r1:=rep.sub [si] (aE (by rw [es];rfl)) (by simp)
 rw [es] at r1
 refine bc hg r1 (ls p (Nat.le_refl _) fun p2 h2 BI ag ac=>?_)
 have keep:=r1.keepAll ac
 refine am rfl entry_list_sort ?_
 show wp _ _ (ksk_tree S (.ref (q+1109)) true) _ _ _ _
 refine Sem.wp_mono _ _ _ (fun _ _ _ z=>z) (fun _ _ _ z=>z.elim) _ _ (yQ DY nd hl hS ag (rep.grow ac.size (Nat.le_refl _) keep) (hP.mono keep) hn fun p h' g' out c bn ko bF=>?_)
 exact fin h' g' out c bn ko bF
theorem sq (es:is.map (Y m)=(oJ q qd qi tq).map some) (nd:is.Nodup) (hl:is.length=3)
  (hv:Y m vi=some (v,⟨.type "dict_items",none,.fields #[.ref dd],#[]⟩)) (hd:Y m di=some (dd,od)) (bT:od.data=.dict gy ep) (hL:Tells gy L) (hn:L.length < 64)
(hg:AllBare g) (rep:Rep (Ad w b1 b2) V U m (j+1109) h)
  (fin:∀ (x:lr L) h' g',AllBare g'->Rep (Ad w b1 b2) V U (bR (bh m (x.D+1109,ad x.out x.e)) x.tl) (x.j+1109) h'->R (.ok (.ret (Aa x.D))) ⟨h',g',d,x.tk,os⟩):
  wpCode (AK w b1 b2) ⟨.builtin "sorted" ⟨[.ref v],[(Str.ofString "key",.ref (q+1109)),(Str.ofString "reverse",.bool true)]⟩,none,none,[(fn f1,p1),(lp lb f2 g2,p2),(fn f3,p3),(fn f4,p4),(CC,p5)],none⟩ R p ⟨h,g,d,tk,os⟩:=by
 refine am rfl entry_sorted ?_
 unfold Builtin.«sorted»
 refine dB (t:=checkCount "sorted" 1 1 _) (wpAny_pure fun p=>?_)
 have ax:h.objs.size=j+1109:=rep.size
 refine dB (mv (s:=⟨h,g,d,tk,os⟩) rfl ⟨_,rep.own _ _ _ hv,rfl,rfl⟩ (rep.own _ _ _ hd) bT (by rw [hL.size];exact cG (by lia)) fun h1 GJ acc c as hk hS bZ hG fz p=>?_)
 obtain ⟨tl,t1,DZ,t2⟩:=sn hL bZ hG fz
 have ow:j+1109 < h1.objs.size:=by have:=Heap.lt_size hS;rw [<- ax];exact this
 have qJ:acc.size=L.length:=DZ.1
 refine dB (wpAny_newList (fun p=>?_) (by rw [Array.length_toList (xs:=acc),qJ,sizeLine_eq];lia))
 rw [Sem.wp_bind',Sem.wp_holding]
 unfold call runValue
 rw [Sem.wp_bind']
 unfold PySem.run
 rw [Sem.wp_call]
 show wpCode _ ⟨.call (.builtin "list.sort") ⟨[.ref h1.objs.size],[(Str.ofString "key",.ref (q+1109)),(Str.ofString "reverse",.bool true)]⟩,none,none,[(srt _,p),(fn f1,p1),(lp lb f2 g2,p2),(fn f3,p3),(fn f4,p4),(CC,p5)],none⟩ _ p ⟨h1.push (seqObj "list" acc.toList.toArray 0),g,d,GJ,os⟩
 rw [Array.toArray_toList]
 have Jq:∀ b o,h.get? b=some o->(h1.push (seqObj "list" acc 0)).get? b=some o:=fun b o e=>Heap.get?_push_of_some _ (hk b o e)
 have low:∀ i a o,Y m i=some (a,o)->a < j+1109:=fun i a o e=>rep.lt e
 obtain ⟨D,hD⟩:∃ D,h1.objs.size=D+1109:=⟨h1.objs.size - 1109,by lia⟩
 have r1:Rep (E2 (W2 w b1 b2)) V U m (D+1+1109) (h1.push (seqObj "list" acc 0)):=rep.grow (by rw [size_push',hD]) (by lia) Jq
 have r8:=rep.start
 have r2:=r1.know (b:=D+1109) (o:=ad acc 0) (by rw [<- hD];exact Heap.get?_push_size _ rfl) (by lia) (fun i o e=>by have:=low i _ _ e;lia) (rep.lowT _ (by lia))
 have r3:=r2.more2 (tl:=tl) (fun pr nl i o e=>by
  have e1:=t2 pr nl
  have e2:=Heap.lt_size e1
  have e3:h.objs.size+1 < pr.1:=hG.above pr.1 (t1▸List.mem_map_of_mem nl)
  rw [av] at e
  split at e
  ·have e4:D+1109=pr.1:=congrArg Prod.fst (Option.some.inj e)
   lia
  ·have:=low i _ _ e;lia) (t1▸hG.rise) fun pr nl=>by
  have e3:h.objs.size+1 < pr.1:=hG.above pr.1 (t1▸List.mem_map_of_mem nl)
  exact ⟨Heap.get?_push_of_some _ (t2 pr nl),by lia,rep.lowT _ (by lia)⟩
 rw [hD]
 refine yS (is:=is) (si:=ah m) (fun o=>eD (by rw [nL];exact yR es)) nd hl (vk m _ tl) hg r3 (DZ.heap r3) hn fun h' g' out c' bn ko bF=>?_
 obtain ⟨L',x1,x2,x3⟩:=kQ DZ ko
 rw [nL] at bF
 exact fin ⟨out,c',tl,L',x1,x2,x3,D,D+1+acc.size+2,GJ+8 * acc.size⟩ h' g' bn bF
end
end
theorem BL (L:KV):Nonempty (lr L):=by
 have:=List.mergeSort_perm ((L.map (·.2)).zip (vd.df L).xs.toList) (fun p q=>decide (q.1<=p.1))
 have hs:=List.pairwise_mergeSort (le:=fun p q:Int×Value=>decide (q.1<=p.1)) (fun a b c h1 h2=>by simp at *;lia) (fun a b=>by simp;lia) ((L.map (·.2)).zip (vd.df L).xs.toList)
 obtain ⟨L',h1,h2,h3⟩:=kQ (out:=((((L.map (·.2)).zip (vd.df L).xs.toList).mergeSort fun p q=>decide (q.1<=p.1)).map (·.2)).toArray) (vd.df L).hP ⟨_,this,rfl,hs.imp fun h=>by simpa using h⟩
 exact ⟨⟨_,0,_,L',h1,h2,h3,0,0,0⟩⟩
noncomputable def lr.df (L:KV):lr L:=Classical.choice (BL L)
noncomputable def GK (b:Bool):List Nat:=@Bool.rec (fun _=>List Nat) [1,6,1,1] [1,2,1,1] b
section
variable {M:Model}{Γ:Ctx}{c:Code}{Q:Result->Shared->Prop}{p:Pos}{s:Shared}
theorem D0 (aF:Γ.code=c) {b:Bool}(hc:dW Γ=(none,none,none,GK b,some CC)) (k:∀ f1 f2 g2 f3 f4 p1 p2 p3 p4 p5,wpCode M ⟨c,none,none,[(fn f1,p1),(lp b f2 g2,p2),(fn f3,p3),(fn f4,p4),(CC,p5)],none⟩ Q p s):wpCode M Γ Q p s:=by
 cases b with
 | false=>exact lc aF hc fun l h=>f7 (D:=fun l=>wpCode M ⟨c,none,none,l,none⟩ Q p s) h fun f1 p1 l h=>l5 (D:=fun l=>wpCode M ⟨c,none,none,(fn f1,p1)::l,none⟩ Q p s) h fun g2 p2 l h=>gL (D:=fun l=>wpCode M ⟨c,none,none,(fn f1,p1)::(wl g2,p2)::l,none⟩ Q p s) h fun f3 f4 p3 p4 p5=>k f1 (default,default,[],[],default) g2 f3 f4 p1 p2 p3 p4 p5
 | true=>exact lc aF hc fun l h=>f7 (D:=fun l=>wpCode M ⟨c,none,none,l,none⟩ Q p s) h fun f1 p1 l h=>rN (D:=fun l=>wpCode M ⟨c,none,none,(fn f1,p1)::l,none⟩ Q p s) h fun f2 p2 l h=>gL (D:=fun l=>wpCode M ⟨c,none,none,(fn f1,p1)::(fl f2,p2)::l,none⟩ Q p s) h fun f3 f4 p3 p4 p5=>k f1 f2 (default,[],[],default) f3 f4 p1 p2 p3 p4 p5
end
theorem vn (l:Mm):∀ i,Y l i=l[i]?:=by
 induction l with
 | nil=>intro i;rfl
 | cons y l ih=>intro i;cases i with | zero=>rfl | succ i=>exact ih i
theorem jM (l:Mm):ah l=l.length:=by
 induction l with
 | nil=>rfl
 | cons y l ih=>exact congrArg Nat.succ ih
theorem Rep.init {E:En}{V h:Heap}{U n:Nat}{m tl:Mm}(r:Rep E V U (bR m tl) n h) (hk:U<=ah m):Rep E V U m n h:=by
 have e:aZ (bR m tl) (List.range (ah m))=m:=eD (by
  refine List.ext_getElem? fun i=>?_
  rw [List.getElem?_map,List.getElem?_map]
  by_cases hi:i < ah m
  ·rw [List.getElem?_range hi]
   show some (Y (bR m tl) i)=_
   rw [eW,if_pos hi,vn,List.getElem?_eq_getElem (jM m▸hi)]
   rfl
  ·rw [List.getElem?_eq_none (by rw [List.length_range];lia),List.getElem?_eq_none (by rw [<- jM];lia)]
   rfl)
 have:=r.pick (List.range (ah m)) (ah m) List.nodup_range (List.take_of_length_le (by simp)) hk (by rw [e];simp)
 rw [e] at this
 exact this
section
variable {d:Drawn}{os:OsState}{w:World}{b1 b2:Bool}
noncomputable def yT (w:World) (b1 b2:Bool) (b lb:Bool) (j0 vi di v dd q qd qi tq:Nat) (is:List Nat) (nd:is.Nodup) (hl:is.length=3) {od:Obj}{es:Array DictEntry}{ep:Nat}(bT:od.data=.dict es ep) {L:KV}(hL:Tells es L) (hn:L.length < 64):ay (E2 (W2 w b1 b2)) d os:=
 ay.leaf (lr L) (lr.df L) (fun a=>(a.code,is.map (Y a.m),Y a.m vi,Y a.m di,dW a.Γ,a.n)) (.builtin "sorted" ⟨[.ref v],[(Str.ofString "key",.ref (q+1109)),(Str.ofString "reverse",.bool true)]⟩,(oJ q qd qi tq).map some,some (v,⟨.type "dict_items",none,.fields #[.ref dd],#[]⟩),some (dd,od),(none,none,none,GK lb,some CC),j0+1109)
  (fun x _=>.ref (x.D+1109)) (fun x a=>bR (bh a.m (x.D+1109,ad x.out x.e)) (Gz b x.tl)) (fun x _=>x.j+1109) (fun x _=>x.tk) (fun _=>True) (by
  intro V U a Q h g e' hc hg dM kk
  obtain ⟨e1,e'⟩:=Prod.ext_iff.mp e'
  obtain ⟨e2,e'⟩:=Prod.ext_iff.mp e'
  obtain ⟨e3,e'⟩:=Prod.ext_iff.mp e'
  obtain ⟨e4,e'⟩:=Prod.ext_iff.mp e'
  obtain ⟨e5,e6⟩:=Prod.ext_iff.mp e'
  dsimp only at e1 e2 e3 e4 e5 e6
  rw [e6] at dM
  refine D0 (hc.trans e1) e5 fun f1 f2 g2 f3 f4 p1 p2 p3 p4 p5=>?_
  refine sq e2 nd hl e3 e4 bT hL hn hg dM fun x h' g' bn bF=>kk x trivial h' g' bn ?_
  cases b with
  | true=>exact bF
  | false=>
   show Rep _ _ _ (bR _ []) _ _
   rw [kf]
   exact bF.init (by rw [gh];exact Nat.le_succ_of_le dM.old))
end
noncomputable abbrev Az:=fun a b c d=>((a+1109,Ac b c d):Addr×Obj)
noncomputable abbrev AA:=fun a=>((a+1109,(aA)):Addr×Obj)
noncomputable abbrev AO:=fun a b c d=>((a+1109,(Ac b c d)):Addr×Obj)
theorem yU {d:Drawn}{os:OsState}{w:World}{b1 b2:Bool}{j tk:Nat}{a da ep:Nat}{es:Array DictEntry}{L:KV}{lb:Bool}{f2:FL}{g2:WL}{f3 f4:FN}{p2 p3 p4 p5:Pos}(hL:Tells es L) (hn:L.length < 64):
  Qc b1 b2 lb d os fun b1 b2 lb=>⟨Ad w b1 b2,2,⟨(.call (.ref 909) ⟨[.ref (a+1109)],[]⟩),none,none,[(lp lb f2 g2,p2),(fn f3,p3),(fn f4,p4),(CC,p5)],none⟩,den (.call (.ref 909) ⟨[.ref (a+1109)],[]⟩),[Ab da,Az a da es ep],j+1109,tk,.c (yT w b1 b2 true lb (j+7) 3 1 (j+1110) (a+1109) (j+3) (j+2) (j+6) (tk+2) [5,4,8] (by decide) rfl (od:=cnt (da+1109) es ep) rfl hL hn) fun x1=>.e (.t (.done (.ret (.ref ((x1.D)+1109)))) ((bR [AA da,AO a da es ep,((x1.D)+1109,(ad (lr.out x1) (x1.e)))] x1.tl)) ((x1.j)+1109) ((x1.10)) 10)⟩:=Gu 254 (Hx 0x1106060000006000000000060600600006897970909798800888888000000060600000000000000000000000000000000000220020120002000200023003003333000) [[]] [9] 254 (Hx 0x1106060000006000000000060600600006897970909798800888888000000060600000000000000000000000000000000000220020120002000200023003003333000) [[]] [9] (by kernel_rfl)
noncomputable def D1 (b:Bool):List Nat:=@Bool.rec (fun _=>List Nat) [6,1,1] [2,1,1] b
section
variable {M:Model}{Γ:Ctx}{c:Code}{Q:Result->Shared->Prop}{p:Pos}{s:Shared}
theorem yV (aF:Γ.code=c) {b:Bool}(hc:dW Γ=(none,none,none,D1 b,some CC)) (k:∀ f2 g2 f3 f4 p2 p3 p4 p5,wpCode M ⟨c,none,none,[(lp b f2 g2,p2),(fn f3,p3),(fn f4,p4),(CC,p5)],none⟩ Q p s):wpCode M Γ Q p s:=by
 cases b with
 | false=>exact lc aF hc fun l h=>l5 (D:=fun l=>wpCode M ⟨c,none,none,l,none⟩ Q p s) h fun g2 p2 l h=>gL (D:=fun l=>wpCode M ⟨c,none,none,(wl g2,p2)::l,none⟩ Q p s) h fun f3 f4 p3 p4 p5=>k (default,default,[],[],default) g2 f3 f4 p2 p3 p4 p5
 | true=>exact lc aF hc fun l h=>rN (D:=fun l=>wpCode M ⟨c,none,none,l,none⟩ Q p s) h fun f2 p2 l h=>gL (D:=fun l=>wpCode M ⟨c,none,none,(fl f2,p2)::l,none⟩ Q p s) h fun f3 f4 p3 p4 p5=>k f2 (default,[],[],default) f3 f4 p2 p3 p4 p5
end
section
variable {d:Drawn}{os:OsState}{w:World}{b1 b2:Bool}
noncomputable abbrev GL (a:Nat):Code:=.call (.ref 909) ⟨[.ref (a+1109)],[]⟩
noncomputable def GM (w:World) (b1 b2 b lb:Bool) (a da ep:Nat) (is:List Nat) (nd:is.Nodup) (hl:2=is.length) {es:Array DictEntry}{L:KV}(hL:Tells es L) (hn:L.length < 64):ay (E2 (W2 w b1 b2)) d os:=
 ay.sub (lr L) (lr.df L) (GL a) (D1 lb) is [(da+1109,aA),(a+1109,cnt (da+1109) es ep)] nd hl (fun x=>.ret (.ref (x.D+1109))) (fun x=>bR [(da+1109,aA),(a+1109,cnt (da+1109) es ep),(x.D+1109,ad x.out x.e)] (Gz b x.tl)) (fun x=>x.j+1109) (fun x=>x.tk) (fun _=>True) (fun x=>by rw [<- hl];rfl) (by
  intro Γ h g p n tk Q aF hc hg hr k
  refine yV aF hc fun f2 g2 f3 f4 p2 p3 p4 p5=>?_
  obtain ⟨j,rfl⟩:=bY (i:=0) hr rfl
  refine bc hg hr ?_
  refine yU hL hn p (hl▸Nat.le_refl _) fun x _ p2 h2 g2 ag ac=>k x trivial h2 g2 ag ?_
  cases b with
  | true=>exact ac
  | false=>
   show Rep _ _ _ (bR _ []) _ _
   rw [kf]
   exact ac.init (by rw [<- hl];exact Nat.le_succ 2))
end
theorem vo {pos:List Value}{l b:Addr}(h:pos.map a9=[.ref l,.ref b]):pos=[.ref l,.ref b]:=by
 obtain ⟨x,y,rfl,h1,h2⟩:=map_two h
 rw [bw h1,bw h2]
theorem jo {c:Code}{id:String}{l b:Addr}(h:bG c=some (id,[.ref l,.ref b])):c=.builtin id ⟨[.ref l,.ref b],[]⟩:=by
 obtain ⟨pos,e3,e4⟩:=b7 h
 rw [e3,vo e4]
noncomputable def C7 (x y:Value):Obj:=⟨.type "slice",none,.fields #[x,y,.none],#[]⟩
theorem mw {M:Program}{w:World}{A:Around}{X:Value->Shared->Prop}{s:Shared}{l sl e:Nat}{xs:Array Value}{vl vu:Value}{lo hi:Option Int}{Q:PySem.Fin->Shared->Prop}(ho:s.heap.get? l=some (ad xs e))
  (BM:s.heap.get? sl=some (C7 vl vu)) (pl:IsPart vl lo) (pu:IsPart vu hi) (hn:xs.size<=1000)
  (h:Q (.done (.ret (.ref s.heap.objs.size))) {s with heap:=s.heap.push (ad (slicePick xs lo hi none) 0)}):wpAny (model M w) A (Builtin.«list.__getitem__» ⟨[.ref l,.ref sl],[]⟩) Q X s:=by
 have GN:s.TypeIs (.ref sl) "slice":=⟨_,BM,rfl⟩
 show wpAny _ _ (Builtin.List.listSubscript? (.ref sl)>>=_) _ _ s
 refine wpAny_bind ?_
 unfold Builtin.List.listSubscript?
 refine wpAny_bind (wpAny_specialOf GN slice_no_index ?_)
 simp only [Option.isNone_none,if_true]
 refine wpAny_pure ?_
 show wpAny _ _ (typeOf (.ref sl)>>=_) _ _ s
 refine wpAny_bind (wpAny_typeOf GN ?_)
 rw [if_neg (by decide),listSliceParts_eq]
 refine wpAny_bind (wpAny_bind (wpAny_field BM rfl (x:=.none) rfl (wpAny_bind (wpAny_listPart .none ?_))))
 rw [if_neg (show ¬ ((rawPart none==rawInt 0)=true) from Bool.false_ne_true)]
 refine wpAny_bind (wpAny_field BM rfl (x:=vl) rfl (wpAny_bind (wpAny_listPart pl ?_)))
 refine wpAny_bind (wpAny_field BM rfl (x:=vu) rfl (wpAny_bind (wpAny_listPart pu (wpAny_pure ?_))))
 refine wpAny_bind (m:=Builtin.List.listItems (.ref l)) ?_
 unfold Builtin.List.listItems
 refine wpAny_bind (wpAny_seqItems ho rfl (wpAny_pure ?_))
 refine wpAny_bind (wpAny_of_eq (sliceIndices_raw lo hi none xs.size (by simp)) ?_)
 exact wpAny_bind (wpAny_newObj_type (wpAny_pure h) (Nat.le_trans (slicePick_size_le xs lo hi none) (cG hn)))
theorem ae.tells {xs:Array Value}{ks:List Int}(h:ae xs ks) {j:Nat}(hj:j < xs.size):∃ t,xs[j]=.int (ks.getD j 0) t:=by
 have hk:j < ks.length:=h.size▸hj
 obtain ⟨t,e⟩:=h.get (List.getElem?_eq_getElem hk)
 rw [Array.getElem?_eq_getElem hj] at e
 refine ⟨t,?_⟩
 rw [List.getD_eq_getElem?_getD,List.getElem?_eq_getElem hk]
 exact Option.some.inj e
theorem BN {ks js:List Int}(h:ks.length=js.length):((List.range ks.length).all fun j=>ks.getD j 0==js.getD j 0)=decide (ks=js):=by
 rw [Bool.eq_iff_iff,List.all_eq_true,decide_eq_true_iff]
 constructor
 ·intro z
  refine List.ext_getElem h fun i h1 h2=>?_
  have:=z i (List.mem_range.mpr h1)
  rw [List.getD_eq_getElem?_getD,List.getD_eq_getElem?_getD,List.getElem?_eq_getElem h1,List.getElem?_eq_getElem h2] at this
  simpa using this
 ·rintro rfl j _
  simp
theorem ae.cnt {ks:List Int}(k:Int):∀ {l:List Value},l.map a9=ks.map (fun k=>Value.int k 0)->l.countP (mn k)=ks.count k:=by
 induction ks with
 | nil=>intro l h;rw [List.map_eq_nil_iff.mp h];rfl
 | cons x ks ih=>
  intro l h
  obtain ⟨y,l,rfl,e1,e2⟩:=List.map_eq_cons_iff.mp h
  obtain ⟨t,rfl⟩:=aO e1
  rw [List.countP_cons,List.count_cons,ih e2]
  rfl
noncomputable def lu (ne a:Bool):Bool:=@Bool.rec (fun _=>Bool) a (!a) ne
section
variable {E:En}{d:Drawn}{os:OsState}
noncomputable def nq (i k:Nat) (l sl e:Nat) (xs:Array Value) (vl vu:Value) (lo hi:Option Int) (ys:Array Value) (pl:IsPart vl lo) (pu:IsPart vu hi) (hy:slicePick xs lo hi none=ys) (hn:xs.size<=1000):ay E d os:=
 ay.leaf Unit () (fun q=>(bG q.code,Y q.m i,Y q.m k)) (some ("list.__getitem__",[.ref l,.ref sl]),some (l,ad xs e),some (sl,C7 vl vu)) (fun _ q=>.ref q.n) (fun _ q=>bh q.m (q.n,ad ys 0)) (fun _ q=>q.n+1) (fun _ q=>q.tk) (fun _=>True) (by
  intro V U q Q h g e' hc hg hr kk
  obtain ⟨e1,e'⟩:=Prod.ext_iff.mp e'
  obtain ⟨e2,e3⟩:=Prod.ext_iff.mp e'
  dsimp only at e1 e2 e3
  refine am (hc.trans (jo e1)) entry_list_getitem ?_
  refine Sem.wp_mono _ _ _ (fun a p' s' h'=>?_) (fun e p' s' h'=>h'.elim) _ _ (aR (Q:=fun f s'=>∃ v,f=.done (.ret v)/\Q (.ok (.ret v)) s') (E:=fun _ _=>False)
   (mw (hr.own _ _ _ e2) (hr.own _ _ _ e3) pl pu hn ⟨_,rfl,by
    have z:=kk () trivial _ g hg (hr.push (o:=ad ys 0) rfl)
    rw [<- hr.size] at z
    rw [hy]
    exact z⟩) _)
  obtain ⟨v,rfl,h'⟩:=h'
  exact h')
noncomputable def my (ne:Bool) (i k:Nat) (l b e e2:Nat) (xs ys:Array Value) {ks js:List Int}(hx:ae xs ks) (hy:ae ys js) (r:Bool) (bS:lu ne (decide (ks=js))=r):ay E d os:=
 ay.leaf Unit () (fun q=>(bG q.code,Y q.m i,Y q.m k)) (some (@Bool.rec (fun _=>String) "list.__eq__" "list.__ne__" ne,[.ref l,.ref b]),some (l,ad xs e),some (b,ad ys e2)) (fun _ _=>.bool r) (fun _ q=>q.m) (fun _ q=>q.n) (fun _ q=>q.tk) (fun _=>True) (by
  intro V U q Q h g e' hc hg hr kk
  obtain ⟨e1,e'⟩:=Prod.ext_iff.mp e'
  obtain ⟨e3,e4⟩:=Prod.ext_iff.mp e'
  dsimp only at e1 e3 e4
  have hl:=hr.own _ _ _ e3
  have hb:=hr.own _ _ _ e4
  have z:=kk () trivial h g hg hr
  have el:=(hx.size.symm.trans ·|>.trans hy.size)
  by_cases hs:xs.size=ys.size
  ·have bZ:=el hs
   have ha:((List.range xs.size).all fun j=>ks.getD j 0==js.getD j 0)=decide (ks=js):=by rw [hx.size];exact BN bZ
   have hj:∀ (A:Around) (s:Shared) j (h1:j < xs.size) (h2:j < ys.size),SeqAt.EqAt A s xs[j] ys[j] (ks.getD j 0==js.getD j 0):=fun A s j h1 h2=>by
    obtain ⟨t,e5⟩:=hx.tells h1
    obtain ⟨u,e6⟩:=hy.tells h2
    rw [e5,e6]
    exact SeqAt.EqAt.int_int _ t _ u
   cases ne with
   | false=>
    refine cI (hc.trans (jo e1)) F.entry_list_eq (by decide+kernel) (SeqAt.list_eqAt l b xs ys e e2 none none #[] #[] hs _) ⟨hl,hb,hj _ _,?_⟩
    rw [ha]
    have:decide (ks=js)=r:=bS
    rw [this];exact z
   | true=>
    refine cI (hc.trans (jo e1)) F.entry_list_ne (by decide+kernel) (SeqAt.list_neAt l b xs ys e e2 none none #[] #[] hs _) ⟨hl,hb,hj _ _,?_⟩
    rw [ha]
    have:(!decide (ks=js))=r:=bS
    rw [this];exact z
  ·have hd:decide (ks=js)=false:=decide_eq_false fun q=>hs (by rw [hx.size,hy.size,q])
   have ca:(xs.size != ys.size)=true:=by simpa using hs
   cases ne with
   | false=>
    refine cI (hc.trans (jo e1)) F.entry_list_eq (by decide+kernel) (SeqAt.list_eq_lengthsAt l b xs ys e e2 none none #[] #[] ca) ⟨hl,hb,?_⟩
    have:decide (ks=js)=r:=bS
    rw [<- hd,this];exact z
   | true=>
    refine cI (hc.trans (jo e1)) F.entry_list_ne (by decide+kernel) (SeqAt.list_ne_lengthsAt l b xs ys e e2 none none #[] #[] ca) ⟨hl,hb,?_⟩
    have e7:(!decide (ks=js))=r:=bS
    rw [hd] at e7
    have e7:true=r:=e7
    rw [e7];exact z)
noncomputable def yW (i k:Nat) (l b e e2:Nat) (xs ys:Array Value) (hn:xs.size+ys.size<=1000):ay E d os:=
 ay.leaf Nat 0 (fun q=>(bG q.code,Y q.m i,Y q.m k)) (some ("list.extend",[.ref l,.ref b]),some (l,ad xs e),some (b,ad ys e2)) (fun _ _=>.none) (fun x q=>aK q.m i (ad (xs++ys) x)) (fun _ q=>q.n) (fun _ q=>q.tk) (fun _=>True) (by
  intro V U q Q h g e' hc hg hr kk
  obtain ⟨e1,e'⟩:=Prod.ext_iff.mp e'
  obtain ⟨e3,e4⟩:=Prod.ext_iff.mp e'
  dsimp only at e1 e3 e4
  have hl:=hr.own _ _ _ e3
  have ax:xs.size+ys.size<=sizeLine:=cG hn
  refine cI (hc.trans (jo e1)) F.entry_list_extend (by decide+kernel) (AutoSeq1.list_extend_list_list_0 l xs e b ys e2 (extend_door ax) (Nat.le_trans (Nat.le_add_right _ _) ax) (Nat.le_succ_of_le ax)) ⟨hl,hr.own _ _ _ e4,?_⟩
  obtain ⟨c,Jr⟩:∃ c,(h.update l (Obj.mapSeq fun x=>x++ys)).get? l=some (ad (xs++ys) c):=⟨_,get?_update_seq hl (fun x=>x++ys)⟩
  exact kk c trivial _ g hg (hr.chg e3 Jr (by rw [<- hr.size];simp [Heap.update]) (Nat.le_refl _) fun b x hb hx=>(Heap.get?_update_other _ _ (Ne.symm hb)).trans hx))
noncomputable def oK (i k:Nat) (l b e e2:Nat) (xs ys:Array Value) (hn:xs.size+ys.size<=1000):ay E d os:=
 ay.leaf Unit () (fun q=>(bG q.code,Y q.m i,Y q.m k)) (some ("list.__add__",[.ref l,.ref b]),some (l,ad xs e),some (b,ad ys e2)) (fun _ q=>.ref q.n) (fun _ q=>bh q.m (q.n,ad (xs++ys) 0)) (fun _ q=>q.n+1) (fun _ q=>q.tk) (fun _=>True) (by
  intro V U q Q h g e' hc hg hr kk
  obtain ⟨e1,e'⟩:=Prod.ext_iff.mp e'
  obtain ⟨e3,e4⟩:=Prod.ext_iff.mp e'
  dsimp only at e1 e3 e4
  refine cI (hc.trans (jo e1)) F.entry_list_add (by decide+kernel) (AutoSeq1.list___add___list_list_0 l xs e b ys e2 (cG hn)) ⟨hr.own _ _ _ e3,hr.own _ _ _ e4,?_⟩
  have z:=kk () trivial _ g hg (hr.push (o:=ad (xs++ys) 0) rfl)
  rw [<- hr.size] at z
  exact z)
noncomputable def D2 (i:Nat) (l e:Nat) (xs:Array Value) (a:Int) (ys:Array Value) (h1:xs.size<=1) (h0:0<=a) (h2:a<=1000) (hy:(List.replicate a.toNat xs.toList).flatten.toArray=ys):ay E d os:=
 ay.leaf Unit () (fun q=>(bG q.code,Y q.m i)) (some ("list.__mul__",[.ref l,.int a 0]),some (l,ad xs e)) (fun _ q=>.ref q.n) (fun _ q=>bh q.m (q.n,ad ys 0)) (fun _ q=>q.n+1) (fun _ q=>q.tk) (fun _=>True) (by
  intro V U q Q h g e' hc hg hr kk
  obtain ⟨e1,e2⟩:=Prod.ext_iff.mp e'
  dsimp only at e1 e2
  obtain ⟨pos,e3,e4⟩:=b7 e1
  obtain ⟨x,y,rfl,h3,h4⟩:=map_two e4
  obtain rfl:=bw h3
  obtain ⟨u,rfl⟩:=aO h4
  have hm:xs.size * a.toNat<=1000:=Nat.le_trans (Nat.mul_le_mul_right _ h1) (by lia)
  refine cI (hc.trans e3) F.entry_list_mul (by decide+kernel) (AutoListH.list___mul___list_int_3 l xs e a u (by simp [Builtin.List.listFitsIndex];lia) (by lia) (by have:=sizeLine_eq;simp [Builtin.List.listTooLong,sizeLine];lia)) ⟨hr.own _ _ _ e2,?_⟩
  have ey:List.foldl (fun x1 x2=>x1++x2) (#[]:Array Value) (List.replicate (if xs.isEmpty=true then 0 else a.toNat) xs)=ys:=by
   rw [<- hy]
   have fl:∀ (n:Nat) (acc:Array Value),List.foldl (fun x1 x2=>x1++x2) acc (List.replicate n xs)=acc++(List.replicate n xs.toList).flatten.toArray:=by
    intro n
    induction n with
    | zero=>intro acc;simp
    | succ n ih=>intro acc;rw [List.replicate_succ,List.foldl_cons,ih,List.replicate_succ,List.flatten_cons];apply Array.toList_inj.mp;simp
   by_cases hx:xs.isEmpty=true
   ·have:xs=#[]:=by simpa using hx
    subst this
    simp
   ·rw [if_neg hx,fl];simp
  rw [ey]
  have z:=kk () trivial _ g hg (hr.push (o:=ad ys 0) rfl)
  rw [<- hr.size] at z
  exact z)
noncomputable def mz (i:Nat) (l e:Nat) (xs:Array Value) {ks:List Int}(hx:ae xs ks) (k:Int) (r:Int) (bS:(ks.count k:Int)=r):ay E d os:=
 ay.leaf Unit () (fun q=>(bG q.code,Y q.m i)) (some ("list.count",[.ref l,.int k 0]),some (l,ad xs e)) (fun _ q=>.int r q.tk) (fun _ q=>q.m) (fun _ q=>q.n) (fun _ q=>q.tk+1) (fun _=>True) (by
  intro V U q Q h g e' hc hg hr kk
  obtain ⟨e1,e2⟩:=Prod.ext_iff.mp e'
  dsimp only at e1 e2
  obtain ⟨pos,e3,e4⟩:=b7 e1
  obtain ⟨x,y,rfl,h3,h4⟩:=map_two e4
  obtain rfl:=bw h3
  obtain ⟨u,rfl⟩:=aO h4
  refine cI (hc.trans e3) F.entry_list_count (by decide+kernel) (SeqAt.list_countAt l xs e none #[] (.int k u) (mn k)) ⟨hr.own _ _ _ e2,fun y hy=>?_,?_⟩
  ·obtain ⟨i,t,rfl⟩:=hx.at hy
   exact SeqAt.EqAt.int_int i t k u
  ·have:(xs.toList.countP (mn k):Int)=r:=by rw [<- bS,<- ae.cnt k hx]
   rw [this]
   exact kk () trivial h g hg hr)
end
section
variable {D De a acc cl e0 i it j l le li m0 t1 tk xe:Nat}{b1 b2:Bool}{d:Drawn}{ds ls xs ys:Array Value}{f0:FL}{f1 f2:FN}{kv vv:Int}{p0 p1 p2 p3:Pos}{w:World}
noncomputable def aq:Str:=sZ 0x657a6973
noncomputable def bX:Str:=sZ 0x656e696c
noncomputable def bM:Str:=sZ 0x70657473
noncomputable def cJ:Str:=sZ 0x65657266
noncomputable def aI (w:World) (l:Nat):Env:={envOf w 1102 (l+1109) with cells:=[(bX,l+1110)]}
noncomputable def D3 (s:Scope):Scope:={s with names:=s.names.map fun x=>match x.2 with | .free=>(x.1,.cell) | _=>x}
noncomputable def yX (w:World):Expr:=aW (cK w 1102 1 0)
noncomputable def cj (w:World) (l it acc cl:Nat):Code:=dE (yX w) (it+1109) (acc+1109) {aI w l with scope:=D3 (kP (yX w)),locals:=cl+1109,func:=none}
noncomputable def ck (v:Value):Obj:=⟨.type "cell",none,.cell (some v),#[]⟩
noncomputable abbrev Al:=fun a=>(⟨(.type "cell"),none,.cell (some (Aa a)),#[]⟩:Obj)
theorem D4 {os:OsState}{t2:Nat}(hx:ds[i]?=some (.ref a)) (hn:xs.size<=1000) (hv:decide (vv>0)=false):
  Qw w b1 b2 d os fun W=>⟨E2 W,7,⟨(cj W l it acc cl),none,none,[(fl f0,p0),(fn f1,p1),(fn f2,p2),(CC,p3)],none⟩,den (cj W l it acc cl),[Ak D ds De,AT it D i,Ak acc xs xe,Ab cl,(l+1110,ck (Aa li)),Ak li ls le,(a,Ag kv t1 vv t2)],j+1109,tk,.u (cH 1 0 (it+1109) (D+1109) i De ds (.ref a) hx)<| .u (fO vv 0 false hv)<| .e (.e (.again (cj W l it acc cl)) [Ah D ds De,AD it D i,Ah acc xs xe,(cl+1109,eM #[aa W dQ tk (.ref a)] 1),(l+1110,(Al li)),Ah li ls le,(a,(Ag kv t1 vv t2))] (j+1109) (tk+3))⟩:=bE 92 [2,0,2,1] [(Hx 0x1107070777444),[]] [] 92 [2,0,2,1] [(Hx 0x1107070777444),[]] [] (by kernel_rfl)
theorem D5 {os:OsState}{t2:Nat}(hx:ds[i]?=some (.ref a)) (hn:xs.size<=1000) (hv:decide (vv>0)=true) (hy:slicePick ls (some (-1)) none none=ys) (fC:ls.size<=1000) {js:List Int}(gP:ae ys js) (bx:lu true (decide ([kv]=js))=true):
  Qb b1 b2 d os fun b1 b2=>⟨Ad w b1 b2,7,⟨(cj (W2 w b1 b2) l it acc cl),none,none,[(fl f0,p0),(fn f1,p1),(fn f2,p2),(CC,p3)],none⟩,den (cj (W2 w b1 b2) l it acc cl),[Ak D ds De,AT it D i,Ak acc xs xe,Ab cl,(l+1110,ck (Aa li)),Ak li ls le,(a,Ag kv t1 vv t2)],j+1109,tk,.u (cH 1 0 (it+1109) (D+1109) i De ds (.ref a) hx)<| .u (fO vv 0 true hv)<| .u (nq 5 8 (li+1109) (j+1110) le ls (.int (-1) (tk+5)) .none (some (-1)) none ys (.int _ _) .none hy fC)<| .u (my true 7 9 (j+1109) (j+1111) 0 0 #[.int kv t1] ys (ks:=[kv]) rfl gP true bx)<| .u (nK 2 (acc+1109) xe xs (.int kv t1) hn)<| .e (.e (.again (cj (W2 w b1 b2) l it acc cl)) [Ah D ds De,AD it D i,(acc+1109,(ad (xs.push (Value.int kv t1)) (xe+1))),(cl+1109,eM #[aa (W2 w b1 b2) dQ tk (.ref a)] 1),(l+1110,(Al li)),Ah li ls le,(a,(Ag kv t1 vv t2))] (j+1112) (tk+7))⟩:=bE 151 [2,0,2,1] [(Hx 0x1107070777444),(Hx 0x116066600570707774),[8,10,8,0,8,1],[4,7,7,7,0,7,0,7,0,3,1],[]] [] 151 [2,0,2,1] [(Hx 0x1107070777444),(Hx 0x116066600570707774),[8,10,8,0,8,1],[4,7,7,7,0,7,0,7,0,3,1],[]] [] (by kernel_rfl)
theorem D6 {os:OsState}{t2:Nat}(hx:ds[i]?=some (.ref a)) (hn:xs.size<=1000) (hv:decide (vv>0)=true) (hy:slicePick ls (some (-1)) none none=ys) (fC:ls.size<=1000) {js:List Int}(gP:ae ys js) (bx:lu true (decide ([kv]=js))=false):
  Qb b1 b2 d os fun b1 b2=>⟨Ad w b1 b2,7,⟨(cj (W2 w b1 b2) l it acc cl),none,none,[(fl f0,p0),(fn f1,p1),(fn f2,p2),(CC,p3)],none⟩,den (cj (W2 w b1 b2) l it acc cl),[Ak D ds De,AT it D i,Ak acc xs xe,Ab cl,(l+1110,ck (Aa li)),Ak li ls le,(a,Ag kv t1 vv t2)],j+1109,tk,.u (cH 1 0 (it+1109) (D+1109) i De ds (.ref a) hx)<| .u (fO vv 0 true hv)<| .u (nq 5 8 (li+1109) (j+1110) le ls (.int (-1) (tk+5)) .none (some (-1)) none ys (.int _ _) .none hy fC)<| .u (my true 7 9 (j+1109) (j+1111) 0 0 #[.int kv t1] ys (ks:=[kv]) rfl gP false bx)<| .e (.e (.again (cj (W2 w b1 b2) l it acc cl)) [Ah D ds De,AD it D i,Ah acc xs xe,(cl+1109,eM #[aa (W2 w b1 b2) dQ tk (.ref a)] 1),(l+1110,(Al li)),Ah li ls le,(a,(Ag kv t1 vv t2))] (j+1112) (tk+6))⟩:=bE 135 [2,0,2,1] [(Hx 0x1107070777444),(Hx 0x116066600570707774),[8,10,8,0,8,1],[]] [] 135 [2,0,2,1] [(Hx 0x1107070777444),(Hx 0x116066600570707774),[8,10,8,0,8,1],[]] [] (by kernel_rfl)
theorem D7 {os:OsState}{t2:Nat}{q0:Value}(hx:ds[i]?=some (.ref a)) (hn:xs.size<=1000) (hv:decide (vv>0)=false):
  Qw w b1 b2 d os fun W=>⟨E2 W,7,⟨(cj W l it acc cl),none,none,[(fl f0,p0),(fn f1,p1),(fn f2,p2),(CC,p3)],none⟩,den (cj W l it acc cl),[Ak D ds De,AT it D i,Ak acc xs xe,(cl+1109,eM #[aa W dQ m0 q0] e0),(l+1110,ck (Aa li)),Ak li ls le,(a,Ag kv t1 vv t2)],j+1109,tk,.u (cH 1 0 (it+1109) (D+1109) i De ds (.ref a) hx)<| .u (fO vv 0 false hv)<| .e (.e (.again (cj W l it acc cl)) [Ah D ds De,AD it D i,Ah acc xs xe,(cl+1109,eM #[aa W dQ m0 (.ref a)] e0),(l+1110,(Al li)),Ah li ls le,(a,(Ag kv t1 vv t2))] (j+1109) (tk+3))⟩:=bE 92 [2,0,2,1] [(Hx 0x1107070777444),[]] [] 92 [2,0,2,1] [(Hx 0x1107070777444),[]] [] (by kernel_rfl)
theorem D8 {os:OsState}{t2:Nat}{q0:Value}(hx:ds[i]?=some (.ref a)) (hn:xs.size<=1000) (hv:decide (vv>0)=true) (hy:slicePick ls (some (-1)) none none=ys) (fC:ls.size<=1000) {js:List Int}(gP:ae ys js) (bx:lu true (decide ([kv]=js))=true):
  Qb b1 b2 d os fun b1 b2=>⟨Ad w b1 b2,7,⟨(cj (W2 w b1 b2) l it acc cl),none,none,[(fl f0,p0),(fn f1,p1),(fn f2,p2),(CC,p3)],none⟩,den (cj (W2 w b1 b2) l it acc cl),[Ak D ds De,AT it D i,Ak acc xs xe,(cl+1109,eM #[aa (W2 w b1 b2) dQ m0 q0] e0),(l+1110,ck (Aa li)),Ak li ls le,(a,Ag kv t1 vv t2)],j+1109,tk,.u (cH 1 0 (it+1109) (D+1109) i De ds (.ref a) hx)<| .u (fO vv 0 true hv)<| .u (nq 5 8 (li+1109) (j+1110) le ls (.int (-1) (tk+5)) .none (some (-1)) none ys (.int _ _) .none hy fC)<| .u (my true 7 9 (j+1109) (j+1111) 0 0 #[.int kv t1] ys (ks:=[kv]) rfl gP true bx)<| .u (nK 2 (acc+1109) xe xs (.int kv t1) hn)<| .e (.e (.again (cj (W2 w b1 b2) l it acc cl)) [Ah D ds De,AD it D i,(acc+1109,(ad (xs.push (Value.int kv t1)) (xe+1))),(cl+1109,eM #[aa (W2 w b1 b2) dQ m0 (.ref a)] e0),(l+1110,(Al li)),Ah li ls le,(a,(Ag kv t1 vv t2))] (j+1112) (tk+7))⟩:=bE 151 [2,0,2,1] [(Hx 0x1107070777444),(Hx 0x116066600570707774),[8,10,8,0,8,1],[4,7,7,7,0,7,0,7,0,3,1],[]] [] 151 [2,0,2,1] [(Hx 0x1107070777444),(Hx 0x116066600570707774),[8,10,8,0,8,1],[4,7,7,7,0,7,0,7,0,3,1],[]] [] (by kernel_rfl)
theorem D9 {os:OsState}{t2:Nat}{q0:Value}(hx:ds[i]?=some (.ref a)) (hn:xs.size<=1000) (hv:decide (vv>0)=true) (hy:slicePick ls (some (-1)) none none=ys) (fC:ls.size<=1000) {js:List Int}(gP:ae ys js) (bx:lu true (decide ([kv]=js))=false):
  Qb b1 b2 d os fun b1 b2=>⟨Ad w b1 b2,7,⟨(cj (W2 w b1 b2) l it acc cl),none,none,[(fl f0,p0),(fn f1,p1),(fn f2,p2),(CC,p3)],none⟩,den (cj (W2 w b1 b2) l it acc cl),[Ak D ds De,AT it D i,Ak acc xs xe,(cl+1109,eM #[aa (W2 w b1 b2) dQ m0 q0] e0),(l+1110,ck (Aa li)),Ak li ls le,(a,Ag kv t1 vv t2)],j+1109,tk,.u (cH 1 0 (it+1109) (D+1109) i De ds (.ref a) hx)<| .u (fO vv 0 true hv)<| .u (nq 5 8 (li+1109) (j+1110) le ls (.int (-1) (tk+5)) .none (some (-1)) none ys (.int _ _) .none hy fC)<| .u (my true 7 9 (j+1109) (j+1111) 0 0 #[.int kv t1] ys (ks:=[kv]) rfl gP false bx)<| .e (.e (.again (cj (W2 w b1 b2) l it acc cl)) [Ah D ds De,AD it D i,Ah acc xs xe,(cl+1109,eM #[aa (W2 w b1 b2) dQ m0 (.ref a)] e0),(l+1110,(Al li)),Ah li ls le,(a,(Ag kv t1 vv t2))] (j+1112) (tk+6))⟩:=bE 135 [2,0,2,1] [(Hx 0x1107070777444),(Hx 0x116066600570707774),[8,10,8,0,8,1],[]] [] 135 [2,0,2,1] [(Hx 0x1107070777444),(Hx 0x116066600570707774),[8,10,8,0,8,1],[]] [] (by kernel_rfl)
theorem GO {os:OsState}(hx:ds.size<=i):
  Qw w b1 b2 d os fun W=>⟨E2 W,2,⟨(cj W l it acc cl),none,none,[(fl f0,p0),(fn f1,p1),(fn f2,p2),(CC,p3)],none⟩,den (cj W l it acc cl),[Ak D ds De,AT it D i],j+1109,tk,.c (jI 1 0 (it+1109) (D+1109) i De ds hx) fun x1=>.e (.e (.done .next) [Ah D ds De,(it+1109,(x1))] (j+1111) tk)⟩:=ee 68 [2,0,2,1] [[4]] [] (by kernel_rfl)
end
noncomputable def jq:Mm->Prop
 | []=>True
 | x::m=>c6 x.2=false/\jq m
theorem jq.at:∀ {m:Mm},jq m->∀ i x,Y m i=some x->c6 x.2=false
 | [],_,i,x,e=>by cases e
 | y::m,h,0,x,e=>by cases e;exact h.1
 | y::m,h,i+1,x,e=>jq.at (m:=m) h.2 i x e
theorem qK:c6 aA=false:=by kernel_rfl
theorem yY (es:Array DictEntry) (ep:Nat):c6 (eM es ep)=false:=by kernel_rfl
theorem dF (xs:Array Value) (e:Nat):c6 (ad xs e)=false:=by kernel_rfl
theorem mA (l i:Nat):c6 (bP l i)=false:=by kernel_rfl
theorem mB (v:Value):c6 (ck v)=false:=by kernel_rfl
noncomputable def freeOf (js:List Int) (x:Int×Int):Bool:=decide (x.2>0)&&lu true (decide ([x.1]=js))
noncomputable def br (js:List Int) (L:KV):List Int:=(L.filter (freeOf js)).map (·.1)
theorem iv (js:List Int) (L:KV) (x:Int×Int):br js (L++[x])=br js L++(if freeOf js x then [x.1] else []):=by
 unfold br
 rw [List.filter_append,List.map_append]
 congr 1
 cases h:freeOf js x<;>simp [h]
section
variable {E:En}{V:Heap}{U:Nat}
end
inductive vp (W:World):Obj->Prop
 | f:vp W aA
 | l {m0:Nat}{q0:Value}{e0:Nat}:vp W (eM #[aa W dQ m0 q0] e0)
theorem vp.t {W:World}{o:Obj}(h:vp W o):c6 o=false:=by
 cases h
 ·exact qK
 ·exact yY _ _
noncomputable def Ea (W:World) (o:Obj):Prop:=∃ m0 q0 e0,o=eM #[aa W dQ m0 q0] e0
section
variable {d:Drawn}{os:OsState}{w:World}{b1 b2:Bool}{V:Heap}{U:Nat}{R:Result->Shared->Prop}
noncomputable abbrev sr (l D it acc cl i De xe li le:Nat) (ds xs ls:Array Value) (ns ito:Obj):Mm:=[(D+1109,ad ds De),(it+1109,ito),(acc+1109,ad xs xe),(cl+1109,ns),(l+1110,ck (.ref (li+1109))),(li+1109,ad ls le)]
theorem yZ {l D it acc cl De li le:Nat}{ds ls ys:Array Value}{H:KV}{js:List Int}{f0:FL}{f1 f2:FN}{p0 p1 vq p3:Pos}(hk:U<=6) (hn:H.length<=1000) (hy:slicePick ls (some (-1)) none none=ys) (fC:ls.size<=1000) (gP:ae ys js):
  ∀ (cz:KV) (i:Nat),H.drop i=cz->∀ (xs:Array Value) (xe:Nat) (ns:Obj) (j tk:Nat) (h:Heap) (g:Array GenState) (p:Pos),xs.size<=i->i<=H.length->ae xs (br js (H.take i))->vp (W2 w b1 b2) ns->(0 < i->Ea (W2 w b1 b2) ns)->c5 (Ad w b1 b2) h ds H->AllBare g->
   Rep (Ad w b1 b2) V U (sr l D it acc cl i De xe li le ds xs ls ns (Aw D i)) (j+1109) h->
   (∀ xs xe ns ito j tk h g,ae xs (br js H)->(0 < H.length->Ea (W2 w b1 b2) ns)->AllBare g->Rep (Ad w b1 b2) V U (sr l D it acc cl i De xe li le ds xs ls ns ito) (j+1109) h->R (.ok .next) ⟨h,g,d,tk,os⟩)->
   wpCode (AK w b1 b2) ⟨cj (W2 w b1 b2) l it acc cl,none,none,[(fl f0,p0),(fn f1,p1),(fn f2,vq),(CC,p3)],none⟩ R p ⟨h,g,d,tk,os⟩:=by
 intro cz
 induction cz with
 | nil=>
  intro i eP xs xe ns j tk h g p gb nM hI bz oL hP hg rep fin
  have hl:H.length<=i:=by
   have:=congrArg List.length eP
   simp at this;lia
  refine bc (E:=E2 (W2 w b1 b2)) (V:=h) (U:=2) hg (rep.sub [0,1] (aE rfl) (by decide)) ?_
  refine GO (by rw [hP.1];exact hl) p (Nat.le_refl _) fun x _ p2 h2 g2 ag ac=>?_
  rw [List.take_of_length_le hl] at hI
  exact fin _ _ _ _ (j+2) _ h2 g2 hI (fun z=>oL (Nat.lt_of_lt_of_le z hl)) ag (rep.join' [0,1] (by decide) rfl ac rfl)
 | cons x cz ih=>
  intro i eP xs xe ns j tk h g p gb nM hI bz oL hP hg rep fin
  have hx:H[i]?=some x:=by
   have:=congrArg (fun l=>l[0]?) eP
   simpa using this
  have BO:H.drop (i+1)=cz:=by
   have:=congrArg List.tail eP
   simpa using this
  have iR:i < H.length:=(List.getElem?_eq_some_iff.mp hx).1
  obtain ⟨a,t,u,e1,e2,e3⟩:=hP.2 i x hx
  have et:H.take (i+1)=H.take i++[x]:=by rw [List.take_succ,hx];rfl
  have r0:=rep.subT [0,1,2,3,4,5] rfl (by decide) rfl (jq.at (m:=sr l D it acc cl i De xe li le ds xs ls ns (bP (D+1109) i)) ⟨dF _ _,mA _ _,dF _ _,bz.t,mB _,dF _ _,trivial⟩) e2 e3
  have go:∀ (mC:Array Value) (sv:Nat) (cD:Obj) (n:Nat) (p2:Pos) (h2:Heap) (g2:Array GenState) (tk:Nat),mC.size<=i+1->ae mC (br js (H.take (i+1)))->vp (W2 w b1 b2) cD->Ea (W2 w b1 b2) cD->AllBare g2->Rep (E2 (W2 w b1 b2)) h 7 (sr l D it acc cl i De sv li le ds mC ls cD (bP (D+1109) (i+1))++[(a,bb (.int x.1 t) (.int x.2 u))]) (n+1109) h2->
    wpCode (Mo (E2 (W2 w b1 b2))) ⟨cj (W2 w b1 b2) l it acc cl,none,none,[(fl f0,p0),(fn f1,p1),(fn f2,vq),(CC,p3)],none⟩ R p2 ⟨h2,g2,d,tk,os⟩:=by
   intro mC sv cD n p2 h2 g2 tk y0 lq fS y4 ag ac
   have aV:=Rep.forget (m:=sr l D it acc cl i De sv li le ds mC ls cD (bP (D+1109) (i+1))) ac rfl e2
   have bC:=rep.join' [0,1,2,3,4,5] (by decide) rfl aV rfl
   have Js:=hP.step r0 ac rfl ⟨.inl (dF _ _),.inl (mA _ _),.inl (dF _ _),.inl bz.t,.inl (mB _),.inl (dF _ _),.inr rfl,trivial⟩
   exact ih (i+1) BO _ _ _ _ _ h2 g2 p2 y0 iR lq fS (fun _=>y4) Js ag bC fin
  refine bc (E:=E2 (W2 w b1 b2)) (V:=h) (U:=7) hg r0 ?_
  cases hv:decide (x.2>0) with
  | false=>
   have hf:br js (H.take (i+1))=br js (H.take i):=by
    have:freeOf js x=false:=by unfold freeOf;rw [hv];rfl
    rw [et,iv,this];simp
   induction bz with
   | f=>exact D4 e1 (by lia) hv p (Nat.le_refl _) fun p2 h2 g2 ag ac=>go _ _ _ _ p2 h2 g2 _ (by lia) (hf▸hI) .l ⟨_,_,_,rfl⟩ ag ac
   | l=>exact D7 e1 (by lia) hv p (Nat.le_refl _) fun p2 h2 g2 ag ac=>go _ _ _ _ p2 h2 g2 _ (by lia) (hf▸hI) .l ⟨_,_,_,rfl⟩ ag ac
  | true=>
   cases bx:lu true (decide ([x.1]=js)) with
   | false=>
    have hf:br js (H.take (i+1))=br js (H.take i):=by
     have:freeOf js x=false:=by unfold freeOf;rw [hv,bx];rfl
     rw [et,iv,this];simp
    induction bz with
    | f=>exact D6 e1 (by lia) hv hy fC gP bx p (Nat.le_refl _) fun p2 h2 g2 ag ac=>go _ _ _ _ p2 h2 g2 _ (by lia) (hf▸hI) .l ⟨_,_,_,rfl⟩ ag ac
    | l=>exact D9 e1 (by lia) hv hy fC gP bx p (Nat.le_refl _) fun p2 h2 g2 ag ac=>go _ _ _ _ p2 h2 g2 _ (by lia) (hf▸hI) .l ⟨_,_,_,rfl⟩ ag ac
   | true=>
    have hf:br js (H.take (i+1))=br js (H.take i)++[x.1]:=by
     have:freeOf js x=true:=by unfold freeOf;rw [hv,bx];rfl
     rw [et,iv,this];simp
    induction bz with
    | f=>exact D5 e1 (by lia) hv hy fC gP bx p (Nat.le_refl _) fun p2 h2 g2 ag ac=>go _ _ _ _ p2 h2 g2 _ (by rw [Array.size_push];lia) (hf▸hI.push _ _) .l ⟨_,_,_,rfl⟩ ag ac
    | l=>exact D8 e1 (by lia) hv hy fC gP bx p (Nat.le_refl _) fun p2 h2 g2 ag ac=>go _ _ _ _ p2 h2 g2 _ (by rw [Array.size_push];lia) (hf▸hI.push _ _) .l ⟨_,_,_,rfl⟩ ag ac
structure sw (ks:List Int) where
 xs:Array Value
 xe:Nat
 hI:ae xs ks
 m0:Nat
 q0:Value
 e0:Nat
 ito:Obj
 j:Nat
 tk:Nat
noncomputable def sw.df (ks:List Int):sw ks:=⟨(ks.map fun k=>Value.int k 0).toArray,0,by unfold ae;simp [a9],0,.none,0,aA,0,0⟩
end
noncomputable def sz:Stmt->List Expr | .Assign t _ _=>t | _=>[]
noncomputable abbrev qL (st:Stmt):Pos:=firstIterPos [dA (aW st)] (yD (aW st))
noncomputable def t4 (w:World) (st:Stmt) (env:Env):Prop:=st=.Assign (sz st) (ka (aW st)) st.pos/\swapsWithSole (sz st) (ka (aW st)) st.pos.line env=pure true/\firstAsync [dA (aW st)]=false
noncomputable def qM (st:Stmt) (env:Env) (x:Value):Sem Fin:=
 R.bindR (Fast.tw12849728916958141902 (ka (aW st)) (kP (aW st)) env (qL st) (Fast.tw2244487426110161322 []) false (.pure x) (some fun v=>Fast.tw15591190973536708279 v (R.mapR (fun x=>x.2) (Fast.tw15628205474173192105 (sz st) env)))) fun _=>.pure (.done .next)
theorem BP (st:Stmt) (env:Env) (x:Value):qM st env x=comprehension (ka (aW st)) (kP (aW st)) env (qL st) (newList []) false (.pure x) (some fun v=>assignAll v ((assignEach (sz st) env).map (·.2)))>>=fun _=>(.pure (.done .next):Sem Fin):=by
 unfold qM
 rw [<- R.bindR_eq,<- Fast.te12849728916958141902,<- Fast.te2244487426110161322,<- Fast.te15591190973536708279,<- Fast.te15628205474173192105,<- R.mapR_eq]
 with_reducible_and_instances rfl
noncomputable def y5 (st:Stmt) (env:Env):Sem Fin:=R.bindR (Fast.tw18100340678103251363 [dA (aW st)] env) fun v=>.pure (.done (.ret v))
theorem BQ (st:Stmt) (env:Env):y5 st env=firstIter [dA (aW st)] env>>=fun v=>(.pure (.done (.ret v)):Sem Fin):=by
 unfold y5;rw [<- R.bindR_eq,<- Fast.te18100340678103251363];rfl
section
variable {E:En}{V:Heap}{U:Nat}{d:Drawn}{os:OsState}
theorem BR {Γ:Ctx}{st:Stmt}{env:Env}{Q:Value->Pos->Shared->Prop}{X:Value->Pos->Shared->Prop}{p:Pos}{m:Mm}{n tk:Nat}{h:Heap}{g:Array GenState}(hg:E.G g) (hr:Rep E V U m n h)
  (w:Well E V U (Iw Q X) d os ⟨Γ,p,[],y5 st env,m,n,tk⟩):wp (Mo E) Γ (firstIter [dA (aW st)] env) Q X p ⟨h,g,d,tk,os⟩:=by
 have z:=w h g hg hr
 rw [cO] at z
 rw [BQ,Sem.wp_bind'] at z
 exact Sem.wp_mono _ _ _ (fun f p' s' h=>h p') (fun e p' s' h=>h p') _ _ z
theorem BS {Γ:Ctx}{st:Stmt}{env:Env}{x:Value}{R:Result->Shared->Prop}{p:Pos}{m:Mm}{n tk:Nat}{h:Heap}{g:Array GenState}(hg:E.G g) (hr:Rep E V U m n h)
  (w:Well E V U R d os ⟨Γ,p,[],qM st env x,m,n,tk⟩):wp (Mo E) Γ (qM st env x) (finPost (Mo E) Γ R) (fun e _ s'=>R (.error e) s') p ⟨h,g,d,tk,os⟩:=by
 have z:=w h g hg hr
 rw [cO] at z
 exact z
theorem y6 {Γ : Ctx} {env : Env} {w : World} {st : Stmt} {rest : List Stmt} {Q : Flow -> Pos -> Shared -> Prop} {X : Value -> Pos -> Shared -> Prop} {p : Pos} {s : Shared} (hs : t4 w st env)
    (h : ∀ p, wp (Mo E) Γ (firstIter [dA (aW st)] env) (fun x p s => ∀ p, wp (Mo E) Γ (qM st env x) (finPost (Mo E) Γ (ut E Γ rest env Q X)) (fun e _ s' => ut E Γ rest env Q X (.error e) s') p s) X p s) : wp (Mo E) Γ (execs (st :: rest) env) Q X p s := by
  obtain ⟨h1, h2, h3⟩ := hs
  rw [h1]
  show wp (Mo E) Γ (exec (.Assign (sz st) (ka (aW st)) st.pos) env >>= fun f => match f with | .next => execs rest env | f => pure f) Q X p s
  rw [exec_Assign_arm]
  simp only [Sem.wp_bind', Sem.wp_cmd_standAt]
  rw [h2, Sem.wp_pure', if_pos rfl]
  have e1 : evalThenUse (ka (aW st)) env (fun v => assignAll v ((assignEach (sz st) env).map (·.2))) = (do let _ <- comprehension (ka (aW st)) (kP (aW st)) env (qL st) (newList []) (firstAsync [dA (aW st)]) (firstIter [dA (aW st)] env) (some fun v => assignAll v ((assignEach (sz st) env).map (·.2)))) := arm_evalThenUse_ListComp _ _ _ _ _ _
  rw [e1, h3]
  have e2 : ∀ (f : Sem Value) u, comprehension (ka (aW st)) (kP (aW st)) env (qL st) (newList []) false f u = f >>= fun x => comprehension (ka (aW st)) (kP (aW st)) env (qL st) (newList []) false (.pure x) u := fun f u => by
    unfold comprehension
    rfl
  rw [e2]
  simp only [Sem.wp_bind']
  refine Sem.wp_mono _ _ _ (fun x p' s' h' => ?_) (fun _ _ _ h' => h') _ _ (h st.pos)
  have h' := h' p'
  rw [BP, Sem.wp_bind'] at h'
  refine Sem.wp_mono _ _ _ (fun v p2 s2 h2 => ?_) (fun e p2 s2 h2 => h2 p2) _ _ h'
  exact h2 p2
end
theorem BU {M:Model}{Γ:Ctx}{c:Code}{Q:Result->Shared->Prop}{p:Pos}{s:Shared}(aF:Γ.code=c) (hc:dW Γ=(none,none,none,[2,1,1],some CC)) (k:∀ f0 f1 f2 p0 p1 p2 p3,wpCode M ⟨c,none,none,[(fl f0,p0),(fn f1,p1),(fn f2,p2),(CC,p3)],none⟩ Q p s):wpCode M Γ Q p s:=
 lc aF hc fun l h=>rN (D:=fun l=>wpCode M ⟨c,none,none,l,none⟩ Q p s) h fun f0 p0 l h=>gL (D:=fun l=>wpCode M ⟨c,none,none,(fl f0,p0)::l,none⟩ Q p s) h fun f1 f2 p1 p2 p3=>k f0 f1 f2 p0 p1 p2 p3
noncomputable def gQ (E:En) (h:Heap) (As:List Nat) (xs:Array Value) (L:KV):Prop:=c5 E h xs L/\∀ a,Value.ref a∈xs->a ∉ As
theorem gQ.keep {h h':Heap}{E:En}{As:List Nat}{xs:Array Value}{L:KV}(p:gQ E h As xs L) {m:Mm}{k n:Nat}(r:Rep E h k m n h') (ha:∀ i a o,i < k->Y m i=some (a,o)->a∈As):c5 E h' xs L:=by
 refine ⟨p.1.1,fun j x e=>?_⟩
 obtain ⟨a,t,u,e1,e2,e3⟩:=p.1.2 j x e
 exact ⟨a,t,u,e1,r.keep a _ e2 fun i b o hi hm hb=>p.2 a (Array.mem_of_getElem? e1) (hb▸ha i b o hi hm),e3⟩
theorem gQ.of {h:Heap}{E:En}{xs:Array Value}{L:KV}(p:c5 E h xs L) {m:Mm}{V:Heap}{k n:Nat}(r:Rep E V k m n h) (nt:jq m) {As:List Nat}(hA:∀ a∈As,∃ i o,Y m i=some (a,o)):gQ E h As xs L:=by
 refine ⟨p,fun a ha hm=>?_⟩
 obtain ⟨i,o,e⟩:=hA a hm
 obtain ⟨j,hj⟩:=Array.mem_iff_getElem?.mp ha
 have og:j < L.length:=by rw [<- p.1];exact (Array.getElem?_eq_some_iff.mp hj).1
 obtain ⟨a',t,u,e1,e2,_⟩:=p.2 j L[j] (List.getElem?_eq_getElem og)
 rw [hj] at e1
 cases e1
 have:=r.own i a o e
 rw [e2] at this
 have z:=nt.at i _ e
 cases this
 cases z
section
variable {d:Drawn}{os:OsState}{w:World}{b1 b2:Bool}{V:Heap}{U:Nat}
noncomputable def GQ (l D it De li le:Nat) (ds ls ys:Array Value) {H:KV}{js:List Int}(hn:H.length<=1000) (hH:0 < H.length) (hy:slicePick ls (some (-1)) none none=ys) (fC:ls.size<=1000) (gP:ae ys js):CH (E2 (W2 w b1 b2)) d os where
 X:=sw (br js H)
 x0:=sw.df _
 L:=_
 look q:=(q.code,([3,4,5,6,1,2]:List Nat).map (Y q.m),dW q.Γ,(Y q.m 0).map (·.1))
 v:=(cj (W2 w b1 b2) l it (it+1) (it+2),(sr l D it (it+1) (it+2) 0 De 0 li le ds #[] ls aA (bP (D+1109) 0)).map some,(none,none,none,[2,1,1],some CC),some (l+1109))
 ans x q:=⟨.pure (.done .next),q.p,eC q.m [3,4,5,6,1,2] (sr l D it (it+1) (it+2) 0 De x.xe li le ds x.xs ls (eM #[aa (W2 w b1 b2) dQ x.m0 x.q0] x.e0) x.ito),x.j+1109,x.tk,[]⟩
 says _:=True
 gd V U:=U<=4/\gQ (E2 (W2 w b1 b2)) V [l+1109,l+1110,li+1109,D+1109] ds H
 holds:=by
  intro V U ⟨hk,hP⟩ hh q Q h g e hc hg hr kk
  obtain ⟨e1,e⟩:=Prod.ext_iff.mp e
  obtain ⟨e2,e⟩:=Prod.ext_iff.mp e
  obtain ⟨e3,e4⟩:=Prod.ext_iff.mp e
  dsimp only at e1 e2 e3 e4
  have es:=eD e2
  have f8:ah (aZ q.m [3,4,5,6,1,2])=6:=by rw [es];rfl
  have dK:=hr.sub [3,4,5,6,1,2] (aE f8) (by decide)
  rw [es] at dK
  have g1:Y q.m 1=some (l+1110,ck (.ref (li+1109))):=Option.some.inj (congrArg (fun l=>l[4]?) e2)
  have g2:Y q.m 2=some (li+1109,ad ls le):=Option.some.inj (congrArg (fun l=>l[5]?) e2)
  have g3:Y q.m 3=some (D+1109,ad ds De):=Option.some.inj (congrArg (fun l=>l[0]?) e2)
  have Jt:c5 (E2 (W2 w b1 b2)) h ds H:=hP.keep hr fun i a o eP hm=>by
   have:i=0∨i=1∨i=2∨i=3:=by lia
   rcases this with rfl | rfl | rfl | rfl
   ·rw [hm] at e4;cases e4;exact List.mem_cons_self ..
   ·rw [hm] at g1;cases g1;exact List.mem_cons_of_mem _ (List.mem_cons_self ..)
   ·rw [hm] at g2;cases g2;exact List.mem_cons_of_mem _ (List.mem_cons_of_mem _ (List.mem_cons_self ..))
   ·rw [hm] at g3;cases g3;exact List.mem_cons_of_mem _ (List.mem_cons_of_mem _ (List.mem_cons_of_mem _ (List.mem_cons_self ..)))
  refine BU (hc.trans e1) e3 fun f0 f1 f2 p0 p1 p2 p3=>?_
  obtain ⟨j,hj⟩:=bY (i:=0) dK rfl
  rw [hj] at dK
  exact yZ (Nat.le_refl _) hn hy fC gP H 0 rfl #[] 0 aA j q.tk h g q.p (Nat.le_refl _) (Nat.zero_le _) ae.nil .f (fun z=>absurd z (Nat.lt_irrefl _)) Jt hg dK fun xs xe ns ito j tk h g hI oL hg rep=>by
   obtain ⟨m0,q0,e0,rfl⟩:=oL hH
   exact kk ⟨xs,xe,hI,m0,q0,e0,ito,j,tk⟩ trivial h g hg (hr.join' [3,4,5,6,1,2] (by decide) f8 rep (by rw [es];rfl))
end
section
variable {D De a da e0 ep fe fr it j k0 k1 k2 k3 l le li tN tk:Nat}{H L:KV}{N:Int}{b1 b2:Bool}{d:Drawn}{ds ls xs ys:Array Value}{es:Array DictEntry}{f1 f2:FN}{p1 p2 p3:Pos}{w:World}
noncomputable abbrev Ai:=fun a b c d e f=>aa (W2 a b c) d e f
noncomputable abbrev At:=fun a b c d e=>aa (W2 a b c) bL d (Aa e)
noncomputable abbrev A6:=fun a b c d e=>b8 (au (W2 a b c) 1102 1) (d+1109) e
noncomputable abbrev AH:=fun a b c d e f g=>Ai a b c d e (.int f g)
theorem Eb {os:OsState}{q2:Value}(hL:Tells es L) (hn:L.length < 64):
  Qb b1 b2 d os fun b1 b2=>⟨Ad w b1 b2,3,⟨(A6 w b1 b2 it (aI (W2 w b1 b2) l)),none,none,[(fn f1,p1),(fn f2,p2),(CC,p3)],none⟩,y5 (cK (W2 w b1 b2) 1102 1 0) (aI (W2 w b1 b2) l),[(l+1109,aL [At w b1 b2 k0 a,AH w b1 b2 aq k1 N tN,Ai w b1 b2 bM k2 q2] e0),Ab da,Az a da es ep],j+1109,tk,.c (GM w b1 b2 true true a da ep [1,2] (by decide) rfl hL hn) fun x1=>.e (.t (.done (.ret (.ref ((x1.D)+1109)))) ((bR [(l+1109,aL [At w b1 b2 k0 a,AH w b1 b2 aq k1 N tN,Ai w b1 b2 bM k2 q2] e0),Ab da,Az a da es ep,((x1.D)+1109,(ad (lr.out x1) (x1.e)))] x1.tl)) ((x1.j)+1109) ((x1.10)) 4)⟩:=bE 85 (Hx 0x1102300003000300031) [[]] [3] 85 (Hx 0x1102300003000300031) [[]] [3] (by kernel_rfl)
theorem Ec {os:OsState}{q2:Value}{js:List Int}(hn:H.length<=1000) (hH:0 < H.length) (hy:slicePick ls (some (-1)) none none=ys) (fC:ls.size<=1000) (gP:ae ys js):
  Qb b1 b2 d os fun b1 b2=>⟨Ad w b1 b2,4,⟨(A6 w b1 b2 it (aI (W2 w b1 b2) l)),none,none,[(fn f1,p1),(fn f2,p2),(CC,p3)],none⟩,qM (cK (W2 w b1 b2) 1102 1 0) (aI (W2 w b1 b2) l) (Aa D),[(l+1109,aL [At w b1 b2 k0 a,AH w b1 b2 aq k1 N tN,Ai w b1 b2 bM k2 q2] e0),(l+1110,ck (Aa li)),Ak li ls le,Ak D ds De],j+1109,tk,.h (GQ l D j De li le ds ls ys hn hH hy fC gP) fun x2=>.e (.e (.done .next) [(l+1109,aL [At w b1 b2 k0 a,AH w b1 b2 aq k1 N tN,Ai w b1 b2 bM k2 q2,Ai w b1 b2 cJ (x2.9) (.ref (j+1110))] (e0+1)),(l+1110,(Al li)),Ax li ls le,Ax D ds De,(j+1110,⟨(.type "list"),none,.seq (sw.xs x2) (x2.xe),#[]⟩)] ((x2.j)+1109) ((x2.9)+1))⟩:=bE 101 (Hx 0x115050550504044) [[1,1,7,7,7]] [5] 101 [4,4,0,4,0,5,0,1] [[1,1,7,7,7]] [5] (by kernel_rfl)
theorem Ed {os:OsState}{q2 q3:Value}(hL:Tells es L) (hn:L.length < 64):
  Qb b1 b2 d os fun b1 b2=>⟨Ad w b1 b2,3,⟨(A6 w b1 b2 it (aI (W2 w b1 b2) l)),none,none,[(fn f1,p1),(fn f2,p2),(CC,p3)],none⟩,y5 (cK (W2 w b1 b2) 1102 1 0) (aI (W2 w b1 b2) l),[(l+1109,aL [At w b1 b2 k0 a,AH w b1 b2 aq k1 N tN,Ai w b1 b2 bM k2 q2,Ai w b1 b2 cJ k3 q3] e0),Ab da,Az a da es ep],j+1109,tk,.c (GM w b1 b2 true true a da ep [1,2] (by decide) rfl hL hn) fun x1=>.e (.t (.done (.ret (.ref ((x1.D)+1109)))) ((bR [(l+1109,aL [At w b1 b2 k0 a,AH w b1 b2 aq k1 N tN,Ai w b1 b2 bM k2 q2,Ai w b1 b2 cJ k3 q3] e0),Ab da,Az a da es ep,((x1.D)+1109,(ad (lr.out x1) (x1.e)))] x1.tl)) ((x1.j)+1109) ((x1.10)) 4)⟩:=bE 85 (Hx 0x1102300003000300031) [[]] [3] 85 (Hx 0x1102300003000300031) [[]] [3] (by kernel_rfl)
theorem Ee {os:OsState}{q2 q3:Value}{js:List Int}(hn:H.length<=1000) (hH:0 < H.length) (hy:slicePick ls (some (-1)) none none=ys) (fC:ls.size<=1000) (gP:ae ys js):
  Qb b1 b2 d os fun b1 b2=>⟨Ad w b1 b2,4,⟨(A6 w b1 b2 it (aI (W2 w b1 b2) l)),none,none,[(fn f1,p1),(fn f2,p2),(CC,p3)],none⟩,qM (cK (W2 w b1 b2) 1102 1 0) (aI (W2 w b1 b2) l) (Aa D),[(l+1109,aL [At w b1 b2 k0 a,AH w b1 b2 aq k1 N tN,Ai w b1 b2 bM k2 q2,Ai w b1 b2 cJ k3 q3] e0),(l+1110,ck (Aa li)),Ak li ls le,Ak D ds De],j+1109,tk,.h (GQ l D j De li le ds ls ys hn hH hy fC gP) fun x2=>.e (.e (.done .next) [(l+1109,aL [At w b1 b2 k0 a,AH w b1 b2 aq k1 N tN,Ai w b1 b2 bM k2 q2,Ai w b1 b2 cJ k3 (.ref (j+1110))] e0),(l+1110,(Al li)),Ax li ls le,Ax D ds De,(j+1110,⟨(.type "list"),none,.seq (sw.xs x2) (x2.xe),#[]⟩)] ((x2.j)+1109) ((x2.9)+1))⟩:=bE 101 (Hx 0x115050550504044) [[1,1,7,7,7]] [5] 101 [4,4,0,4,0,5,0,1] [[1,1,7,7,7]] [5] (by kernel_rfl)
noncomputable abbrev A0:=fun a b c d e f=>Ai a b c d e (Aa f)
noncomputable abbrev AU:=fun a b c d e f g h i j k l m n o p=>aL [At a b c d e,AH a b c f g h i,Ai a b c j k l,A0 a b c m n o] p
theorem GR {os:OsState}{q2:Value}(hy:slicePick xs none (some 1) none=ys) (gb:xs.size<=1000) (hs:ls.size+ys.size<=1000):
  Qb b1 b2 d os fun b1 b2=>⟨Ad w b1 b2,4,⟨(A6 w b1 b2 it (aI (W2 w b1 b2) l)),none,none,[(fn f1,p1),(fn f2,p2),(CC,p3)],none⟩,d9 [cK (W2 w b1 b2) 1102 1 1] (aI (W2 w b1 b2) l),[(l+1109,AU w b1 b2 k0 a aq k1 N tN bM k2 q2 cJ k3 fr e0),(l+1110,ck (Aa li)),Ak li ls le,Ak fr xs fe],j+1109,tk,.u (nq 3 4 (fr+1109) (j+1109) fe xs .none (.int 1 tk) none (some 1) ys .none (.int _ _) hy gb)<| .c (yW 2 5 (li+1109) (j+1110) le 0 ls ys hs) fun x2=>.e (.e (.done .next) [(l+1109,(AU w b1 b2 k0 a aq k1 N tN bM k2 q2 cJ k3 fr e0)),(l+1110,(ck (Aa li))),(li+1109,(ad (ls++ys) x2)),Ah fr xs fe] (j+1111) (tk+1))⟩:=ee 89 (Hx 0x1140444133332) [[0,3,1],[]] [] (by kernel_rfl)
end
section
variable {N kv ov:Int}{a da e0 ep fe fr it j k0 k1 k2 k3 l t1 tN tk:Nat}{b1 b2:Bool}{d:Drawn}{es:Array DictEntry}{f1 f2:FN}{p1 p2 p3:Pos}{w:World}{xs:Array Value}
theorem Ef {os:OsState}{q2:Value}(hy:slicePick xs none (some 1) none=#[]) (gb:xs.size<=1000):
  Qb b1 b2 d os fun b1 b2=>⟨Ad w b1 b2,4,⟨(A6 w b1 b2 it (aI (W2 w b1 b2) l)),none,none,[(fn f1,p1),(fn f2,p2),(CC,p3)],none⟩,d9 [cK (W2 w b1 b2) 1102 1 2] (aI (W2 w b1 b2) l),[(l+1109,AU w b1 b2 k0 a aq k1 N tN bM k2 q2 cJ k3 fr e0),Ab da,Az a da es ep,Ak fr xs fe],j+1109,tk,.u (nq 3 4 (fr+1109) (j+1109) fe xs .none (.int 1 tk) none (some 1) #[] .none (.int _ _) hy gb)<| .e (.e (.done .next) [(l+1109,(AU w b1 b2 k0 a aq k1 N tN bM k2 q2 cJ k3 fr e0)),AA da,AO a da es ep,Ah fr xs fe] (j+1120) (tk+20))⟩:=bE 443 (Hx 0x114044412300003000300031) [(Hx 0x170707077800ffdd6dd0d0d0d0606680000bb00000000000c00cc0000b000000b000b00bbbb0000aa00000000000000000000000000000000aa6060060606aaa600a0000aaaa000000000000600008008803002033000300300000003880088888800000)] [] 443 (Hx 0x114044412300003000300031) [(Hx 0x170707077800ffdd6dd0d0d0d0606680000bb00000000000c00cc0000b000000b000b00bbbb0000aa00000000000000000000000000000000aa6060060606aaa600a0000aaaa000000000000600008008803002033000300300000003880088888800000)] [] (by kernel_rfl)
theorem Eg {os:OsState}{q2:Value}{t3:Nat}(hy:slicePick xs none (some 1) none=#[.int kv t1]) (gb:xs.size<=1000) (dj:IntKeys es) (ax:es.size<=sizeLine) (dN:findBy Value.isInt es kv=some (.int ov t3)):
  Qb b1 b2 d os fun b1 b2=>⟨Ad w b1 b2,4,⟨(A6 w b1 b2 it (aI (W2 w b1 b2) l)),none,none,[(fn f1,p1),(fn f2,p2),(CC,p3)],none⟩,d9 [cK (W2 w b1 b2) 1102 1 2] (aI (W2 w b1 b2) l),[(l+1109,AU w b1 b2 k0 a aq k1 N tN bM k2 q2 cJ k3 fr e0),Ab da,Az a da es ep,Ak fr xs fe],j+1109,tk,.u (nq 3 4 (fr+1109) (j+1109) fe xs .none (.int 1 tk) none (some 1) #[.int kv t1] .none (.int _ _) hy gb)<| .u (l2 2 (a+1109) (Ac da es ep) es ep rfl dj kv (.int 0 0) (some (.int ov t3)) dN)<| .u (iq 2 (a+1109) (Ac da es ep) es ep rfl dj ax (bH _ _ _ _) kv (.int (ov - 1) 0))<| .e (.e (.done .next) [(l+1109,(AU w b1 b2 k0 a aq k1 N tN bM k2 q2 cJ k3 fr e0)),AA da,(a+1109,cnt (da+1109) (eu es kv (.int kv t1) (.int (ov - 1) (tk+22))) ((ev es ep kv))),Ah fr xs fe] (j+1120) (tk+26))⟩:=bE 503 (Hx 0x114044412300003000300031) [(Hx 0x110033039098888dd6dd0d0d0d0606680000bb00000000000c00cc0000b000000b000b00bbbb0000aa00000000000000000000000000000000aa6060060606aaa600a0000aaaa000000000000600008008803002033000300300000003880088888800000),(Hx 0x110300003038800),(Hx 0x170707077800ffdd6dd0d0d0)] [] 503 (Hx 0x114044412300003000300031) [(Hx 0x110033039098888dd6dd0d0d0d0606680000bb00000000000c00cc0000b000000b000b00bbbb0000aa00000000000000000000000000000000aa6060060606aaa600a0000aaaa000000000000600008008803002033000300300000003880088888800000),(Hx 0x110300003038800),(Hx 0x170707077800ffdd6dd0d0d0)] [] (by kernel_rfl)
end
section
variable {N k left x:Int}{a e0 it j k0 k1 k2 k3 kt l tN tk:Nat}{b1 b2:Bool}{d:Drawn}{f1 f2:FN}{p1 p2 p3:Pos}{w:World}
theorem Eh {os:OsState}:
  Qw w b1 b2 d os fun W=>⟨E2 W,1,⟨(b8 (au W 1102 1) (it+1109) (aI W l)),none,none,[(fn f1,p1),(fn f2,p2),(CC,p3)],none⟩,rJ (me (au W 1102 1)) (.int k kt) [] (aI W l),[(l+1109,aL [aa W bL k0 (.ref (a+1109)),aa W aq k1 (.int N tN)] e0)],j+1109,tk,.e (.e (.done .next) [(l+1109,aL [aa W bL k0 (.ref (a+1109)),aa W aq k1 (.int N tN),aa W bM tk (.int k kt)] (e0+1))] (j+1109) (tk+1))⟩:=ee 68 [1,1] [] [] (by kernel_rfl)
theorem Ei {os:OsState}{q2 q3:Value}:
  Qw w b1 b2 d os fun W=>⟨E2 W,1,⟨(b8 (au W 1102 1) (it+1109) (aI W l)),none,none,[(fn f1,p1),(fn f2,p2),(CC,p3)],none⟩,rJ (me (au W 1102 1)) (.int k kt) [] (aI W l),[(l+1109,aL [aa W bL k0 (.ref (a+1109)),aa W aq k1 (.int N tN),aa W bM k2 q2,aa W cJ k3 q3] e0)],j+1109,tk,.e (.e (.done .next) [(l+1109,aL [aa W bL k0 (.ref (a+1109)),aa W aq k1 (.int N tN),aa W bM k2 (.int k kt),aa W cJ k3 q3] e0)] (j+1109) (tk+1))⟩:=ee 68 [1,1] [] [] (by kernel_rfl)
theorem GS {os:OsState}(hl:left<=0):
  Qw w b1 b2 d os fun W=>⟨E2 W,1,⟨(b8 (au W 1102 1) (it+1109) (aI W l)),none,none,[(fn f1,p1),(fn f2,p2),(CC,p3)],none⟩,den (b8 (au W 1102 1) (it+1109) (aI W l)),[(it+1109,dy x left 1)],j+1109,tk,.u (wi 0 (it+1109) x left hl)<| .e (.e (.done .next) [(it+1109,(dy x left 1))] (j+1111) tk)⟩:=ee 69 [1,0,1,1] [[3,0]] [] (by kernel_rfl)
end
noncomputable def bA (A:List Int):List Int:=A.drop (A.length - 1)
noncomputable def iw (r:KV) (k:Int):KV:=putL r k (ct r k - 1)
noncomputable def fv (L:KV) (s:KV×List Int):KV×List Int:=(((br (bA s.2) L).take 1).foldl iw s.1,s.2++(br (bA s.2) L).take 1)
inductive i4:Nat->KV×List Int->KV×List Int->Prop
 | z (s:KV×List Int):i4 0 s s
 | s {n:Nat}{s s':KV×List Int}(L:KV) (hp:L.Perm s.1) (hd:gY L) (h:i4 n (fv L s) s'):i4 (n+1) s s'
theorem mD {l:KV}{k:Int}(h:k∈l.map (·.1)):∃ c,lk l k=some c:=by
 obtain ⟨x,hx,rfl⟩:=List.mem_map.mp h
 exact Bg (v:=x.2) hx
theorem sA {l:KV}{k c v:Int}(h:lk l k=some v):(putL l k c).length=l.length:=by
 induction l with
 | nil=>cases h
 | cons x l ih=>
  show (if x.1=k then (x.1,c)::l else x::putL l k c).length=_
  by_cases e:x.1=k
  ·rw [if_pos e];rfl
  ·rw [if_neg e]
   have h:(if x.1=k then some x.2 else lk l k)=some v:=h
   rw [if_neg e] at h
   rw [List.length_cons,List.length_cons,ih h]
theorem sB {js:List Int}{L:KV}{k:Int}(h:k∈br js L):k∈L.map (·.1):=by
 obtain ⟨x,hx,rfl⟩:=List.mem_map.mp h
 exact List.mem_map.mpr ⟨x,(List.mem_filter.mp hx).1,rfl⟩
theorem ae.drop {xs:Array Value}{ks:List Int}(h:ae xs ks) (n:Nat):ae (xs.toList.drop n).toArray (ks.drop n):=by
 unfold ae at *
 rw [List.map_drop,h,List.map_drop]
theorem ae.take {xs:Array Value}{ks:List Int}(h:ae xs ks) (n:Nat):ae (xs.toList.take n).toArray (ks.take n):=by
 unfold ae at *
 rw [List.map_take,h,List.map_take]
theorem ae.app {xs ys:Array Value}{ks js:List Int}(h:ae xs ks) (h':ae ys js):ae (xs++ys) (ks++js):=by
 unfold ae at *
 rw [Array.toList_append,List.map_append,List.map_append,h,h']
theorem kR (xs:Array Value):slicePick xs (some (-1)) none none=(xs.toList.drop (xs.size - 1)).toArray:=by
 rw [<- slicePick_from xs (xs.size - 1) (by lia)]
 have:sliceBounds (some (-1)) none none xs.size=sliceBounds (some ((xs.size - 1:Nat):Int)) none none xs.size:=by
  simp only [sliceBounds,Option.getD_none]
  congr 1
  rcases Nat.eq_zero_or_pos xs.size with h | h
  ·rw [h];rfl
  ·simp only [show ((-1:Int) < 0) from by decide,if_true,show ¬ (((xs.size - 1:Nat):Int) < 0) from by lia,if_false,show (1:Int)>0 from by decide]
   congr 1
   lia
 unfold slicePick
 rw [this]
theorem sC (xs:Array Value):slicePick xs none (some 1) none=(xs.toList.take 1).toArray:=by
 rcases Nat.eq_zero_or_pos xs.size with h | h
 ·have:xs=#[]:=Array.size_eq_zero_iff.mp h
  subst this
  rfl
 ·exact slicePick_upto xs 1 h
theorem ae.nilv {xs:Array Value}(h:ae xs []):xs=#[]:=by
 have:=h.size
 exact Array.size_eq_zero_iff.mp this
theorem ae.one {xs:Array Value}{k:Int}(h:ae xs [k]):∃ t,xs=#[.int k t]:=by
 unfold ae at h
 obtain ⟨y,l,e1,e2,e3⟩:=List.map_eq_cons_iff.mp h
 obtain ⟨t,rfl⟩:=aO e2
 rw [List.map_eq_nil_iff.mp e3] at e1
 exact ⟨t,Array.toList_inj.mp e1⟩
inductive BV (W:World) (a tN:Nat) (N:Int):Obj->Prop
 | s {k0 k1 e0:Nat}:BV W a tN N (aL [aa W bL k0 (.ref (a+1109)),aa W aq k1 (.int N tN)] e0)
 | l {k0 k1 k2 k3 e0:Nat}{q2 q3:Value}:BV W a tN N (aL [aa W bL k0 (.ref (a+1109)),aa W aq k1 (.int N tN),aa W bM k2 q2,aa W cJ k3 q3] e0)
inductive vr (W:World) (a tN:Nat) (N:Int):Obj->Prop
 | f {k0 k1 k2 e0:Nat}{q2:Value}:vr W a tN N (aL [aa W bL k0 (.ref (a+1109)),aa W aq k1 (.int N tN),aa W bM k2 q2] e0)
 | l {k0 k1 k2 k3 e0:Nat}{q2 q3:Value}:vr W a tN N (aL [aa W bL k0 (.ref (a+1109)),aa W aq k1 (.int N tN),aa W bM k2 q2,aa W cJ k3 q3] e0)
inductive BW (W:World) (a tN fr:Nat) (N:Int):Obj->Prop
 | l {k0 k1 k2 k3 e0:Nat}{q2:Value}:BW W a tN fr N (aL [aa W bL k0 (.ref (a+1109)),aa W aq k1 (.int N tN),aa W bM k2 q2,aa W cJ k3 (.ref (fr+1109))] e0)
theorem y7 (es:List DictEntry) (ep:Nat):c6 (aL es ep)=false:=by kernel_rfl
theorem y8 (d:Nat) (es:Array DictEntry) (ep:Nat):c6 (cnt d es ep)=false:=by kernel_rfl
theorem vr.t {W:World}{a tN:Nat}{N:Int}{o:Obj}(h:vr W a tN N o):c6 o=false:=by cases h<;>exact y7 _ _
section
variable {d:Drawn}{os:OsState}{w:World}{b1 b2:Bool}{V:Heap}{U:Nat}{R:Result->Shared->Prop}{l it a da li tN:Nat}{N:Int}{f1 f2:FN}{p1 p2 p3:Pos}
noncomputable abbrev Ej (w:World) (l it:Nat):Code:=b8 (au w 1102 1) (it+1109) (aI w l)
noncomputable abbrev kh (w:World) (l it:Nat) (f1 f2:FN) (p1 p2 p3:Pos):Ctx:=⟨Ej w l it,none,none,[(fn f1,p1),(fn f2,p2),(CC,p3)],none⟩
noncomputable abbrev oM (l it a da li:Nat) (ns ito:Obj) (es:Array DictEntry) (ep:Nat) (ls:Array Value) (le:Nat):Mm:=[(l+1109,ns),(l+1110,ck (.ref (li+1109))),(da+1109,aA),(a+1109,cnt (da+1109) es ep),(li+1109,ad ls le),(it+1109,ito)]
theorem y9 (w:World):mf (au w 1102 1)=[]++[cK w 1102 1 0,cK w 1102 1 1,cK w 1102 1 2]:=by kernel_rfl
theorem BX (w:World):C1 (me (au w 1102 1)):=fun _ _=>by kernel_rfl
theorem Ek (w:World) (l:Nat):t4 w (cK w 1102 1 0) (aI w l):=⟨by kernel_rfl,by rw [Fast.te7783108440312521181];kernel_rfl,by kernel_rfl⟩
end
section
variable {Q:Flow->Pos->Shared->Prop}{X:Value->Pos->Shared->Prop}{ep fe fr j le tk:Nat}{es:Array DictEntry}{g:Array GenState}{h:Heap}{ls xs:Array Value}{ns:Obj}{p:Pos}{r:KV}{rest:List Stmt}
section
variable {d:Drawn}{os:OsState}{w:World}{b1 b2:Bool}{V:Heap}{U:Nat}{R:Result->Shared->Prop}{l it a da li tN:Nat}{N:Int}{f1 f2:FN}{p1 p2 p3:Pos}{x left:Int}
theorem El {A:List Int}(hk:U<=6)
  (hT:Tells es r) (hr:r.length < 64) (Em:0 < r.length) (hI:ae ls A) (fC:ls.size<=1000) (bz:vr (W2 w b1 b2) a tN N ns) (hg:AllBare g) (rep:Rep (Ad w b1 b2) V U (oM l it a da li ns (dy x left 1) es ep ls le) (j+1109) h)
  (nx:∀ L ns xs xe fr j tk h g p,L.Perm r->gY L->ae xs (br (bA A) L)->BW (W2 w b1 b2) a tN fr N ns->AllBare g->Rep (Ad w b1 b2) V U (oM l it a da li ns (dy x left 1) es ep ls le++[Ak fr xs xe]) (j+1109) h->
   wp (AK w b1 b2) (kh (W2 w b1 b2) l it f1 f2 p1 p2 p3) (execs rest (aI (W2 w b1 b2) l)) Q X p ⟨h,g,d,tk,os⟩):
  wp (AK w b1 b2) (kh (W2 w b1 b2) l it f1 f2 p1 p2 p3) (execs (cK (W2 w b1 b2) 1102 1 0::rest) (aI (W2 w b1 b2) l)) Q X p ⟨h,g,d,tk,os⟩:=by
 refine y6 (Ek _ _) fun pa=>?_
 have r1:=rep.sub [0,2,3] (aE rfl) (by decide)
 refine BR hg r1 ?_
 have GT:∀ (x1:lr r) (pz:Pos) (h2:Heap) (g2:Array GenState),AllBare g2->Rep (E2 (W2 w b1 b2)) h 3 (bR [(l+1109,ns),(da+1109,aA),(a+1109,cnt (da+1109) es ep),(x1.D+1109,ad x1.out x1.e)] x1.tl) (x1.j+1109) h2->
   ∀ p,wp (Mo (E2 (W2 w b1 b2))) (kh (W2 w b1 b2) l it f1 f2 p1 p2 p3) (qM (cK (W2 w b1 b2) 1102 1 0) (aI (W2 w b1 b2) l) (.ref (x1.D+1109))) (finPost (Mo (E2 (W2 w b1 b2))) (kh (W2 w b1 b2) l it f1 f2 p1 p2 p3) (ut (E2 (W2 w b1 b2)) (kh (W2 w b1 b2) l it f1 f2 p1 p2 p3) rest (aI (W2 w b1 b2) l) Q X)) (fun e _ s'=>ut (E2 (W2 w b1 b2)) (kh (W2 w b1 b2) l it f1 f2 p1 p2 p3) rest (aI (W2 w b1 b2) l) Q X (.error e) s') p ⟨h2,g2,d,x1.tk,os⟩:=by
  intro x1 pz h2 g2 ag ac p
  have hP:=x1.hP.heap ac
  have aV:=ac.init (Nat.le_succ 3)
  have bC:=rep.join' [0,2,3] (by decide) rfl aV rfl
  have r5:=bC.sub [0,1,4,6] (aE rfl) (by decide)
  have GU:gQ (E2 (W2 w b1 b2)) h2 [l+1109,l+1110,li+1109,x1.D+1109] x1.out x1.L':=gQ.of hP r5 ⟨bz.t,mB _,dF _ _,dF _ _,trivial⟩ (fun b hb=>by
   rcases List.mem_cons.mp hb with rfl | hb
   ·exact ⟨0,_,rfl⟩
   rcases List.mem_cons.mp hb with rfl | hb
   ·exact ⟨1,_,rfl⟩
   rcases List.mem_cons.mp hb with rfl | hb
   ·exact ⟨2,_,rfl⟩
   rcases List.mem_cons.mp hb with rfl | hb
   ·exact ⟨3,_,rfl⟩
   ·cases hb)
  refine BS ag r5 ?_
  have GV:ae (slicePick ls (some (-1)) none none) (bA A):=by
   rw [kR,hI.size]
   exact hI.drop _
  have fin:∀ (x2:sw (br (bA A) x1.L')) (mE:Obj) (pz:Pos) (h3:Heap) (g3:Array GenState) (tk:Nat),BW (W2 w b1 b2) a tN (x1.j+1) N mE->AllBare g3->Rep (E2 (W2 w b1 b2)) h2 4 [(l+1109,mE),(l+1110,ck (.ref (li+1109))),(li+1109,ad ls le),(x1.D+1109,ad x1.out x1.e),(x1.j+1+1109,ad x2.xs x2.xe)] (x2.j+1109) h3->
    ∀ p,wp (Mo (E2 (W2 w b1 b2))) (kh (W2 w b1 b2) l it f1 f2 p1 p2 p3) (execs rest (aI (W2 w b1 b2) l)) Q X p ⟨h3,g3,d,tk,os⟩:=by
   intro x2 mE pz h3 g3 tk qN mF dO p
   have gZ:=(bC.join' [0,1,4,6] (by decide) rfl dO rfl).pick [0,1,2,3,4,5,7] 6 (by decide) (by decide) hk rfl
   exact nx x1.L' mE x2.xs x2.xe (x1.j+1) x2.j tk h3 g3 p x1.hp x1.hd x2.hI qN mF gZ
  have hn:x1.L'.length<=1000:=by rw [x1.hp.length_eq];lia
  have hH:0 < x1.L'.length:=by rw [x1.hp.length_eq];exact Em
  induction bz with
  | f=>exact Ec hn hH rfl fC GV p (by decide) ⟨⟨by decide,GU⟩,fun x2 _ pz h3 g3 mF dO=>fin x2 _ pz h3 g3 _ .l mF dO⟩
  | l=>exact Ee hn hH rfl fC GV p (by decide) ⟨⟨by decide,GU⟩,fun x2 _ pz h3 g3 mF dO=>fin x2 _ pz h3 g3 _ .l mF dO⟩
 induction bz with
 | f=>exact Eb hT hr pa (by decide) fun x1 _ pz h2 g2 ag ac=>fun _=>GT x1 pz h2 g2 ag ac
 | l=>exact Ed hT hr pa (by decide) fun x1 _ pz h2 g2 ag ac=>fun _=>GT x1 pz h2 g2 ag ac
theorem BY {A F:List Int}(hk:U<=6)
  (hT:Tells es r) (hr:r.length < 64) (hI:ae ls A) (fC:ls.size<=900) (hF:ae xs F) (gb:F.length<=1000) (hm:∀ k∈F,k∈r.map (·.1)) (bz:BW (W2 w b1 b2) a tN fr N ns) (hg:AllBare g) (rep:Rep (Ad w b1 b2) V U (oM l it a da li ns (dy x left 1) es ep ls le++[Ak fr xs fe]) (j+1109) h)
  (nx:∀ es ep ls le ns j tk h g p,Tells es ((F.take 1).foldl iw r)->ae ls (A++F.take 1)->BV (W2 w b1 b2) a tN N ns->AllBare g->Rep (Ad w b1 b2) V U (oM l it a da li ns (dy x left 1) es ep ls le) (j+1109) h->Q .next p ⟨h,g,d,tk,os⟩):
  wp (AK w b1 b2) (kh (W2 w b1 b2) l it f1 f2 p1 p2 p3) (execs [cK (W2 w b1 b2) 1102 1 1,cK (W2 w b1 b2) 1102 1 2] (aI (W2 w b1 b2) l)) Q X p ⟨h,g,d,tk,os⟩:=by
 have hx:xs.size<=1000:=by rw [hF.size];exact gb
 have qO:ae (slicePick xs none (some 1) none) (F.take 1):=by rw [sC];exact hF.take 1
 have gP:(slicePick xs none (some 1) none).size<=1:=by rw [qO.size,List.length_take];exact Nat.min_le_left _ _
 refine (ew (l:=[cK (W2 w b1 b2) 1102 1 1]) (Γ:=kh (W2 w b1 b2) l it f1 f2 p1 p2 p3) hg rep ?_:_)
 refine Well.sub [0,1,4,6] rfl (by decide) rfl fun h1 cm=>?_
 induction bz with | @l k0 k1 k2 k3 e0 q2=>?_
 refine GR rfl hx (by lia) p (by decide) fun x1 _ pz h2 g2 ag ac=>?_
 have aV:=cm.join' [0,1,4,6] (by decide) rfl ac rfl
 intro pb
 refine (ew (l:=[cK (W2 w b1 b2) 1102 1 2]) (Γ:=kh (W2 w b1 b2) l it f1 f2 p1 p2 p3) ag aV ?_:_)
 refine Well.sub [0,2,3,6] rfl (by decide) rfl fun h3 bC=>?_
 have fin:∀ (gy:Array DictEntry) (lv n tk:Nat) (h4:Heap) (g4:Array GenState) (pz:Pos),Tells gy ((F.take 1).foldl iw r)->AllBare g4->Rep (E2 (W2 w b1 b2)) h3 4 [(l+1109,aL [aa (W2 w b1 b2) bL k0 (.ref (a+1109)),aa (W2 w b1 b2) aq k1 (.int N tN),aa (W2 w b1 b2) bM k2 q2,aa (W2 w b1 b2) cJ k3 (.ref (fr+1109))] e0),(da+1109,aA),(a+1109,cnt (da+1109) gy lv),(fr+1109,ad xs fe)] (n+1109) h4->
   ∀ p,Q .next p ⟨h4,g4,d,tk,os⟩:=by
  intro gy lv n tk h4 g4 pz ki za cx p
  have dO:=(bC.join' [0,2,3,6] (by decide) rfl cx rfl).pick [0,1,2,3,4,5] 6 (by decide) (by decide) hk rfl
  exact nx gy lv _ _ _ n tk h4 g4 p ki (hI.app qO) .l za dO
 cases F with
 | nil=>
  have e1:slicePick xs none (some 1) none=#[]:=qO.nilv
  exact Ef e1 hx pb (by decide) fun pz h4 g4 za cx=>fin _ _ _ _ h4 g4 pz hT za cx
 | cons k F=>
  obtain ⟨t,e1⟩:∃ t,slicePick xs none (some 1) none=#[.int k t]:=ae.one qO
  obtain ⟨c,hc⟩:=mD (hm k (List.mem_cons_self ..))
  obtain ⟨u,hu⟩:=hT.hit hc
  have hs:iw r k=putL r k (c - 1):=by unfold iw ct;rw [hc];rfl
  refine Eg e1 hx hT.keys (by rw [hT.size];exact cG (by lia)) hu pb (by decide) fun pz h4 g4 za cx=>fin _ _ _ _ h4 g4 pz ?_ za cx
  show Tells _ (iw r k)
  rw [hs]
  exact hT.put _ _ _ _
theorem sD (js:List Int) (L:KV):(br js L).length<=L.length:=by
 unfold br
 rw [List.length_map]
 exact List.length_filter_le _ _
theorem nN {F:List Int}(h:∀ k∈F,k∈r.map (·.1)):((F.take 1).foldl iw r).length=r.length:=by
 cases F with
 | nil=>rfl
 | cons k F=>
  obtain ⟨c,hc⟩:=mD (h k (List.mem_cons_self ..))
  exact sA hc
theorem zb {r₀:KV×List Int}(hk:U<=6)
  (fin:∀ es ep ls le ns ito s' j tk h g,i4 N.toNat r₀ s'->Tells es s'.1->ae ls s'.2->AllBare g->Rep (Ad w b1 b2) V U (oM l it a da li ns ito es ep ls le) (j+1109) h->R (.ok .next) ⟨h,g,d,tk,os⟩):
  ∀ (n:Nat) (s:KV×List Int),(∀ s',i4 n s s'->i4 N.toNat r₀ s')->∀ {x left:Int}{es:Array DictEntry}{ep le j tk:Nat}{ls:Array Value}{ns:Obj}{h:Heap}{g:Array GenState}{p:Pos},left=Int.ofNat n->s.2.length+n<=800->s.1.length < 64->0 < s.1.length->
   Tells es s.1->ae ls s.2->BV (W2 w b1 b2) a tN N ns->AllBare g->Rep (Ad w b1 b2) V U (oM l it a da li ns (dy x left 1) es ep ls le) (j+1109) h->
   wpCode (AK w b1 b2) (kh (W2 w b1 b2) l it f1 f2 p1 p2 p3) R p ⟨h,g,d,tk,os⟩:=by
 intro n
 induction n with
 | zero=>
  intro s hs x left es ep le j tk ls ns h g p hl hz dk h0 hT hI bz hg rep
  refine bc (E:=E2 (W2 w b1 b2)) hg rep ?_
  refine Well.sub [5] rfl (by decide) rfl fun h1 cm=>?_
  refine GS (by rw [hl];decide) p (Nat.le_refl _) fun p2 h2 g2 ag ac=>?_
  exact fin _ _ _ _ ns _ s (j+2) _ h2 g2 (hs s (.z s)) hT hI ag (cm.join' [5] (by decide) rfl ac rfl)
 | succ n ih=>
  intro s hs x left es ep le j tk ls ns h g p hl hz dk h0 hT hI bz hg rep
  refine va (ii:=5) (BX _) rfl hg rep rfl (by rw [hl];exact Int.ofNat_lt.mpr (Nat.succ_pos _)) (fun pa=>pD (y9 _) ?_) p
  refine Well.sub [0] rfl (by decide) rfl fun h1 cm=>?_
  have go:∀ (mE:Obj) (tk:Nat) (h2:Heap) (g2:Array GenState),vr (W2 w b1 b2) a tN N mE->AllBare g2->Rep (E2 (W2 w b1 b2)) h1 1 [(l+1109,mE)] (j+1109) h2->∀ p,wp (Mo (E2 (W2 w b1 b2))) (kh (W2 w b1 b2) l it f1 f2 p1 p2 p3) (execs [cK (W2 w b1 b2) 1102 1 0,cK (W2 w b1 b2) 1102 1 1,cK (W2 w b1 b2) 1102 1 2] (aI (W2 w b1 b2) l)) (rK (E2 (W2 w b1 b2)) (kh (W2 w b1 b2) l it f1 f2 p1 p2 p3) (Ej (W2 w b1 b2) l it) R) (fun _ _ _=>False) p ⟨h2,g2,d,tk,os⟩:=by
   intro mE tk h2 g2 qN ag ac p
   have aV:Rep (E2 (W2 w b1 b2)) V U (oM l it a da li mE (dy (x+1) (left - 1) 1) es ep ls le) (j+1109) h2:=cm.join' [0] (by decide) rfl ac rfl
   refine El hk hT dk h0 hI (by rw [hI.size];lia) qN ag aV fun L Kv xs xe fr j3 Kw h3 g3 Kx hp hd hF GW mF bC=>?_
   have zc:∀ k∈br (bA s.2) L,k∈s.1.map (·.1):=fun k hk=>(hp.map (·.1)).mem_iff.mp (sB hk)
   refine BY hk hT dk hI (by rw [hI.size];lia) hF (by have:=sD (bA s.2) L;rw [hp.length_eq] at this;lia) zc GW mF bC fun gy lv zd GX cD j' a8 h' g' p' ki lq fS bn bF=>?_
   refine ih (fv L s) (fun s' ca=>hs s' (.s L hp hd ca)) ?_ ?_ ?_ ?_ ki lq fS bn bF
   ·rw [hl];simp only [Int.ofNat_eq_natCast];lia
   ·show (s.2++(br (bA s.2) L).take 1).length+n<=800
    have:((br (bA s.2) L).take 1).length<=1:=by rw [List.length_take];exact Nat.min_le_left _ _
    rw [List.length_append];lia
   ·show (((br (bA s.2) L).take 1).foldl iw s.1).length < 64
    rw [nN zc];exact dk
   ·show 0 < (((br (bA s.2) L).take 1).foldl iw s.1).length
    rw [nN zc];exact h0
  induction bz with
  | s=>exact Eh pa (Nat.le_refl _) fun pz h2 g2 ag ac=>go _ _ h2 g2 .f ag ac
  | l=>exact Ei pa (Nat.le_refl _) fun pz h2 g2 ag ac=>go _ _ h2 g2 .l ag ac
end
end
structure mG (n:Nat) (r:KV) where
 s:KV×List Int
 hR:i4 n (r,[]) s
 es:Array DictEntry
 ep:Nat
 hT:Tells es s.1
 ls:Array Value
 le:Nat
 hI:ae ls s.2
 ns:Obj
 ito:Obj
 j:Nat
 tk:Nat
theorem qP (r:KV):∃ L:KV,L.Perm r/\gY L:=⟨_,List.mergeSort_perm r (fun p q=>decide (q.2<=p.2)),(List.pairwise_mergeSort (le:=fun p q:Int×Int=>decide (q.2<=p.2)) (fun a b c h1 h2=>by simp at *;lia) (fun a b=>by simp;lia) r).imp fun h=>by simpa using h⟩
theorem qQ:∀ (n:Nat) (s:KV×List Int),∃ s',i4 n s s'
 | 0,s=>⟨s,.z s⟩
 | n+1,s=>by
  obtain ⟨L,h1,h2⟩:=qP s.1
  obtain ⟨s',h⟩:=qQ n (fv L s)
  exact ⟨s',.s L h1 h2 h⟩
theorem eX (ks:List Int):ae (ks.map fun k=>Value.int k 0).toArray ks:=by unfold ae;simp [a9]
theorem BZ (n:Nat) (r:KV):Nonempty (mG n r):=by
 obtain ⟨s,h⟩:=qQ n (r,[])
 exact ⟨⟨s,h,_,0,dR _,_,0,eX _,aA,aA,0,0⟩⟩
noncomputable def mG.df (n:Nat) (r:KV):mG n r:=Classical.choice (BZ n r)
theorem ze {M:Model}{Γ:Ctx}{c:Code}{Q:Result->Shared->Prop}{p:Pos}{s:Shared}(aF:Γ.code=c) (hc:dW Γ=(none,none,none,[1,1],some CC)) (k:∀ f0 f1 p0 p1 p2,wpCode M ⟨c,none,none,[(fn f0,p0),(fn f1,p1),(CC,p2)],none⟩ Q p s):wpCode M Γ Q p s:=
 lc aF hc fun l h=>gL (D:=fun l=>wpCode M ⟨c,none,none,l,none⟩ Q p s) h k
section
variable {d:Drawn}{os:OsState}{w:World}{b1 b2:Bool}
noncomputable def Ju (l it a da li tN k0 k1 e0:Nat) (N:Int) (es:Array DictEntry) (ep le:Nat) {r:KV}(hT:Tells es r) (dk:r.length < 64) (h0:0 < r.length) (hN:0<=N) (sE:N<=800) (is:List Nat) (nd:is.Nodup) (hl:6=is.length):ay (E2 (W2 w b1 b2)) d os:=
 ay.sub (mG N.toNat r) (mG.df _ _) (Ej (W2 w b1 b2) l it) [1,1] is
  (oM l it a da li (aL [aa (W2 w b1 b2) bL k0 (.ref (a+1109)),aa (W2 w b1 b2) aq k1 (.int N tN)] e0) (dy 0 N 1) es ep #[] le)
  nd hl (fun _=>.next) (fun x=>oM l it a da li x.ns x.ito x.es x.ep x.ls x.le) (fun x=>x.j+1109) (fun x=>x.tk) (fun _=>True) (fun x=>by rw [<- hl];rfl) (by
   intro Γ h g p n tk Q aF hc hg hr k
   refine ze aF hc fun f0 f1 p0 p1 p2=>?_
   obtain ⟨j,rfl⟩:=bY (i:=0) hr rfl
   refine zb (r₀:=(r,[])) (N:=N) (tN:=tN) (hl▸Nat.le_refl _) (fun gy lv zd GX cD GY s' j' a8 h' g' hR ki lq bn bF=>k ⟨s',hR,gy,lv,ki,zd,GX,lq,cD,GY,j',a8⟩ trivial h' g' bn bF) N.toNat (r,[]) (fun _ z=>z) ?_ ?_ dk h0 hT ae.nil .s hg hr
   ·simp only [Int.ofNat_eq_natCast];lia
   ·show 0+N.toNat<=800;lia)
end
theorem Eo {d:Drawn}{os:OsState}{w:World}{b1 b2:Bool}{j tk:Nat}{a da ep tN:Nat}{N:Int}{es:Array DictEntry}{r:KV}{f2:FN}{p2 p3:Pos}(hT:Tells es r) (dk:r.length < 64) (h0:0 < r.length) (hN:0<=N) (sE:N<=800):
  Qb b1 b2 d os fun b1 b2=>⟨Ad w b1 b2,2,⟨(.call (.ref 1102) ⟨[.ref (a+1109),.int N tN],[]⟩),none,none,[(fn f2,p2),(CC,p3)],none⟩,den (.call (.ref 1102) ⟨[.ref (a+1109),.int N tN],[]⟩),[Ab da,Az a da es ep],j+1109,tk,.u (u9 5 (j+1112) N (tk+2) tN (tk+3) hN (Int.le_trans sE (by decide)))<| .c (Ju j (j+4) a da (j+2) tN tk (tk+1) 2 N es ep 0 hT dk h0 hN sE [2,3,0,1,4,6] (by decide) rfl) fun x1=>.e (.e (.done (.ret (.ref (j+1111)))) [Ab da,(a+1109,Ac da (mG.es x1) (x1.ep)),(j+1111,⟨(.type "list"),none,.seq (mG.ls x1) (x1.le),#[]⟩)] ((x1.j)+1109) ((x1.12)))⟩:=ee 124 (Hx 0x11606660606600003004400333300) [[7,1],[4]] [4] (by kernel_rfl)
section
variable {Q:Result->Shared->Prop}{a b da db e0 fp it j k0 k1 l m0 m1 rp t t1 tk:Nat}{b1 b2:Bool}{d:Drawn}{f0 f2 f3:FN}{fs rs:Array DictEntry}{kv ov vv:Int}{ns:Obj}{p p0 p1 p2 p3 p4 lZ:Pos}{r:KV}{w:World}{Γ:Ctx}
noncomputable abbrev Aq:=fun a b c=>aa a aY b (Aa c)
noncomputable abbrev A2:=fun a b c=>rJ (me (au a 1076 0)) (Aa b) (mf (au a 1076 0)) (envOf a 1076 (c+1109))
noncomputable abbrev AE:=fun a b c=>b8 (au a 1076 0) (b+1109) (envOf a 1076 (c+1109))
theorem B0 {os:OsState}{t2 t3:Nat}{f1:WL}(dj:IntKeys rs) (ax:rs.size<=sizeLine) (dN:findBy Value.isInt rs kv=some (.int ov t3)):
  Qw w b1 b2 d os fun W=>⟨E2 W,3,⟨(AE W it l),none,none,[(fn f0,p0),(wl f1,p1),(fn f2,p2),(fn f3,p3),(CC,p4)],none⟩,A2 W t l,[AM a da rs rp,(l+1109,aL [Aq W k0 a,aa W de k1 (Aa b)] e0),(t+1109,Ag kv t1 vv t2)],j+1109,tk,.u (pB 0 (a+1109) (cnt da rs rp) rs rp rfl dj kv (.int ov t3) dN)<| .u (iq 0 (a+1109) (cnt da rs rp) rs rp rfl dj ax (bH _ _ _ _) kv (.int (ov - vv) 0))<| .e (.e (.done .next) [(a+1109,cnt da (eu rs kv (.int kv t1) (.int (ov - vv) (tk+3))) ((ev rs rp kv))),(l+1109,aL [Aq W k0 a,aa W de k1 (Aa b),aa W bk tk (.int kv t1),aa W cb (tk+1) (.int vv t2)] (e0+2)),(t+1109,(Ag kv t1 vv t2))] (j+1112) (tk+5))⟩:=ee 157 (Hx 0x1101000010122222264434404044434404044434404044030333) [(Hx 0x11010000101002),[]] [] (by kernel_rfl)
theorem B1 {os:OsState}{t2:Nat}{f1:WL}(dj:IntKeys rs) (ax:rs.size<=sizeLine) (dN:findBy Value.isInt rs kv=none):
  Qw w b1 b2 d os fun W=>⟨E2 W,3,⟨(AE W it l),none,none,[(fn f0,p0),(wl f1,p1),(fn f2,p2),(fn f3,p3),(CC,p4)],none⟩,A2 W t l,[AM a da rs rp,(l+1109,aL [Aq W k0 a,aa W de k1 (Aa b)] e0),(t+1109,Ag kv t1 vv t2)],j+1109,tk,.u (nz 0 (a+1109) (cnt da rs rp) rs rp 1093 rfl rfl dj kv dN)<| .u (iq 0 (a+1109) (cnt da rs rp) rs rp rfl dj ax (bH _ _ _ _) kv (.int (0 - vv) 0))<| .e (.e (.done .next) [(a+1109,cnt da (eu rs kv (.int kv t1) (.int (0 - vv) (tk+6))) ((ev rs rp kv))),(l+1109,aL [Aq W k0 a,aa W de k1 (Aa b),aa W bk tk (.int kv t1),aa W cb (tk+1) (.int vv t2)] (e0+2)),(t+1109,(Ag kv t1 vv t2))] (j+1113) (tk+8))⟩:=ee 182 (Hx 0x1101000010122222264434404044434404044434404044030333) [(Hx 0x1101000010100200777700000001),[]] [] (by kernel_rfl)
theorem B2 {os:OsState}{t2 t3:Nat}{f1:WL}{q0 q1:Value}(dj:IntKeys rs) (ax:rs.size<=sizeLine) (dN:findBy Value.isInt rs kv=some (.int ov t3)):
  Qw w b1 b2 d os fun W=>⟨E2 W,3,⟨(AE W it l),none,none,[(fn f0,p0),(wl f1,p1),(fn f2,p2),(fn f3,p3),(CC,p4)],none⟩,A2 W t l,[AM a da rs rp,(l+1109,aL [Aq W k0 a,aa W de k1 (Aa b),aa W bk m0 q0,aa W cb m1 q1] e0),(t+1109,Ag kv t1 vv t2)],j+1109,tk,.u (pB 0 (a+1109) (cnt da rs rp) rs rp rfl dj kv (.int ov t3) dN)<| .u (iq 0 (a+1109) (cnt da rs rp) rs rp rfl dj ax (bH _ _ _ _) kv (.int (ov - vv) 0))<| .e (.e (.done .next) [(a+1109,cnt da (eu rs kv (.int kv t1) (.int (ov - vv) (tk+3))) ((ev rs rp kv))),(l+1109,aL [Aq W k0 a,aa W de k1 (Aa b),aa W bk m0 (.int kv t1),aa W cb m1 (.int vv t2)] e0),(t+1109,(Ag kv t1 vv t2))] (j+1112) (tk+5))⟩:=ee 157 (Hx 0x1101000010122222264434404044434404044434404044030333) [(Hx 0x11010000101002),[]] [] (by kernel_rfl)
theorem B3 {os:OsState}{t2:Nat}{f1:WL}{q0 q1:Value}(dj:IntKeys rs) (ax:rs.size<=sizeLine) (dN:findBy Value.isInt rs kv=none):
  Qw w b1 b2 d os fun W=>⟨E2 W,3,⟨(AE W it l),none,none,[(fn f0,p0),(wl f1,p1),(fn f2,p2),(fn f3,p3),(CC,p4)],none⟩,A2 W t l,[AM a da rs rp,(l+1109,aL [Aq W k0 a,aa W de k1 (Aa b),aa W bk m0 q0,aa W cb m1 q1] e0),(t+1109,Ag kv t1 vv t2)],j+1109,tk,.u (nz 0 (a+1109) (cnt da rs rp) rs rp 1093 rfl rfl dj kv dN)<| .u (iq 0 (a+1109) (cnt da rs rp) rs rp rfl dj ax (bH _ _ _ _) kv (.int (0 - vv) 0))<| .e (.e (.done .next) [(a+1109,cnt da (eu rs kv (.int kv t1) (.int (0 - vv) (tk+6))) ((ev rs rp kv))),(l+1109,aL [Aq W k0 a,aa W de k1 (Aa b),aa W bk m0 (.int kv t1),aa W cb m1 (.int vv t2)] e0),(t+1109,(Ag kv t1 vv t2))] (j+1113) (tk+8))⟩:=ee 182 (Hx 0x1101000010122222264434404044434404044434404044030333) [(Hx 0x1101000010100200777700000001),[]] [] (by kernel_rfl)
noncomputable def fY (r:KV) (x:Int×Int):KV:=putL r x.1 (ct r x.1 - x.2)
theorem vt (r:KV) (x:Int×Int):(fY r x).length<=r.length+1:=nD _ _ _
theorem zf {M:Model}{c:Code}{s:Shared}(aF:Γ.code=c) (hc:dW Γ=(none,none,none,[1,6,1,1],some CC)) (k:∀ f0 f1 f2 f3 p0 p1 p2 p3 p4,wpCode M ⟨c,none,none,[(fn f0,p0),(wl f1,p1),(fn f2,p2),(fn f3,p3),(CC,p4)],none⟩ Q p s):wpCode M Γ Q p s:=
 lc aF hc fun l h=>f7 (D:=fun l=>wpCode M ⟨c,none,none,l,none⟩ Q p s) h fun f0 p0 l h=>l5 (D:=fun l=>wpCode M ⟨c,none,none,(fn f0,p0)::l,none⟩ Q p s) h fun f1 p1 l h=>gL (D:=fun l=>wpCode M ⟨c,none,none,(fn f0,p0)::(wl f1,p1)::l,none⟩ Q p s) h fun f2 f3 p2 p3 p4=>k f0 f1 f2 f3 p0 p1 p2 p3 p4
section
variable {d:Drawn}{os:OsState}{V:Heap}{U:Nat}
inductive kj (W:World) (a b:Nat):Obj->Prop
 | f {k0 k1 e0:Nat}:kj W a b (aL [aa W aY k0 (.ref (a+1109)),aa W de k1 (.ref (b+1109))] e0)
 | l {k0 k1 m0 m1:Nat}{q0 q1:Value}{e0:Nat}:kj W a b (aL [aa W aY k0 (.ref (a+1109)),aa W de k1 (.ref (b+1109)),aa W bk m0 q0,aa W cb m1 q1] e0)
noncomputable abbrev AR:=fun a b c d e=>b8 (au (W2 a b c) 1076 0) (d+1109) (envOf (W2 a b c) 1076 (e+1109))
theorem vw (w:World) (b1 b2:Bool) {R:Result->Shared->Prop}{t1 t2:Tok}{f1:WL}
  (hr:Tells rs r) (hz:r.length<=sizeLine) (bz:kj (W2 w b1 b2) a b ns) (hk:U<=3)
  (fin:∀ j' a8 iW kg cD p h g,Tells iW (fY r (kv,vv))->kj (W2 w b1 b2) a b cD->AllBare g->Rep (Ad w b1 b2) V U [AM a da iW kg,(l+1109,cD),(t+1109,Ag kv t1 vv t2)] (j'+1109) h->lV (Ad w b1 b2) R ⟨(AR w b1 b2 it l),none,none,[(fn f0,p0),(wl f1,p1),(fn f2,p2),(fn f3,p3),(CC,p4)],none⟩ (.done .next) p ⟨h,g,d,a8,os⟩):
  Well (Ad w b1 b2) V U R d os ⟨⟨(AR w b1 b2 it l),none,none,[(fn f0,p0),(wl f1,p1),(fn f2,p2),(fn f3,p3),(CC,p4)],none⟩,lZ,[],(rJ (me (au (W2 w b1 b2) 1076 0)) (Aa t) (mf (au (W2 w b1 b2) 1076 0)) (envOf (W2 w b1 b2) 1076 (l+1109))),[AM a da rs rp,(l+1109,ns),(t+1109,Ag kv t1 vv t2)],j+1109,tk⟩:=by
 have dj:=hr.keys
 have ax:rs.size<=sizeLine:=hr.size▸hz
 rcases hr.get kv with ⟨ov,t3,e1,e2⟩ | ⟨e1,e2⟩
 ·have es:fY r (kv,vv)=putL r kv (ov - vv):=by unfold fY ct;dsimp only;rw [e1];rfl
  rw [es] at fin
  induction bz with | @f k0 k1 e0=>?_ | @l k0 k1 m0 m1 q0 q1 e0=>?_
  ·exact B0 dj ax e2 lZ hk fun p h g hg bS=>fin _ _ _ _ _ p h g (hr.put _ _ _ _) .l hg bS
  ·exact B2 dj ax e2 lZ hk fun p h g hg bS=>fin _ _ _ _ _ p h g (hr.put _ _ _ _) .l hg bS
 ·have es:fY r (kv,vv)=putL r kv (0 - vv):=by unfold fY ct;dsimp only;rw [e1];rfl
  rw [es] at fin
  induction bz with | @f k0 k1 e0=>?_ | @l k0 k1 m0 m1 q0 q1 e0=>?_
  ·exact B1 dj ax e2 lZ hk fun p h g hg bS=>fin _ _ _ _ _ p h g (hr.put _ _ _ _) .l hg bS
  ·exact B3 dj ax e2 lZ hk fun p h g hg bS=>fin _ _ _ _ _ p h g (hr.put _ _ _ _) .l hg bS
theorem vx (w:World):mf (au w 1076 0)=mf (au w 1076 0)++[]:=(List.append_nil _).symm
theorem vy (w:World):yC (au w 1076 0)=[]:=by kernel_rfl
theorem zg (w:World):ol (me (au w 1076 0)):=fun _ _=>by kernel_rfl
theorem vz (w:World) (b1 b2:Bool) {R:Result->Shared->Prop}{F:KV}{f1:WL}(hk:U<=4) (hF:Tells fs F) (hS:∀ r x,(fY r x).length<=r.length+1):
  ∀ (cz:KV) (i:Nat),F.drop i=cz->∀ (r:KV) (rs:Array DictEntry) (rp:Nat) (ns:Obj) (ok ov:Value) (j tk:Nat) (h:Heap) (g:Array GenState) (p:Pos),Tells rs r->r.length+cz.length<=sizeLine->kj (W2 w b1 b2) a b ns->AllBare g->
   Rep (Ad w b1 b2) V U [AM a da rs rp,AM b db fs fp,(l+1109,ns),(it+1109,c8 (b+1109) i fs.size fp .none ok ov)] (j+1109) h->
   (∀ j' a8 iW kg cD mq h' g',Tells iW (cz.foldl fY r)->kj (W2 w b1 b2) a b cD->AllBare g'->Rep (Ad w b1 b2) V U [AM a da iW kg,AM b db fs fp,(l+1109,cD),(it+1109,mq)] (j'+1109) h'->R (.ok .next) ⟨h',g',d,a8,os⟩)->
   wpCode (AK w b1 b2) ⟨(AR w b1 b2 it l),none,none,[(fn f0,p0),(wl f1,p1),(fn f2,p2),(fn f3,p3),(CC,p4)],none⟩ R p ⟨h,g,d,tk,os⟩:=by
 intro cz
 induction cz with
 | nil=>
  intro i hi r rs rp ns ok ov j tk h g p hr ax bz hg rep fin
  have hN:fs.size<=i:=by
   rw [hF.size]
   have:=congrArg List.length hi
   simp at this;lia
  refine rL (ii:=3) (di:=1) (by show Code.forLoop _ _ _ (yC _) _=_;rw [vy]) rfl hg rep rfl rfl rfl rfl hN (fun h' n' o' hn bF=>?_) p
  have:n'=(n' - 1109)+1109:=by lia
  rw [this] at bF
  exact fin (n' - 1109) tk rs rp ns o' h' g hr bz hg bF
 | cons x cz ih=>
  intro i hi r rs rp ns ok ov j tk h g p hr ax bz hg rep fin
  obtain ⟨kv,vv⟩:=x
  have hx:F[i]?=some (kv,vv):=by
   have:=congrArg (fun l=>l[0]?) hi
   simpa using this
  obtain ⟨t,u,he⟩:=hF.at hx
  refine om (ii:=3) (di:=1) (zg _) rfl hg rep rfl rfl rfl rfl he (fun Jv=>pD (vx _) ?_) p
  refine Well.sub [0,2,4] rfl (by decide) rfl fun h1 cm=>?_
  refine vw w b1 b2 (j:=j+1) (t:=j) (b:=b) hr (by simp at ax;lia) bz (Nat.le_refl _) fun j2 gz Jw Jx mE lw h2 g2 ln qN ag ac=>?_
  have aV:=cm.join' [0,2,4] (by decide) rfl ac rfl
  intro GZ
  show wpCode _ _ R GZ _
  have bC:=aV.pick [0,1,2,3] 4 (by decide) (by decide) hk rfl
  have eP:F.drop (i+1)=cz:=by
   have:=congrArg List.tail hi
   simpa using this
  refine ih (i+1) eP _ Jw Jx mE _ _ j2 gz h2 g2 GZ ln ?_ qN ag bC fin
  have:=hS r (kv,vv)
  simp only [List.length_cons] at ax
  show (fY r (kv,vv)).length+cz.length<=sizeLine
  lia
structure G0 (T:KV) where
 j:Nat
 tk:Nat
 rp:Nat
 rs:Array DictEntry
 k0:Nat
 k1:Nat
 e0:Nat
 ex:List DictEntry
 it:Obj
 hT:Tells rs T
noncomputable def zh (w:World) (b1 b2:Bool) (l it a b da db rp fp k0 k1 e0:Nat) (rs fs:Array DictEntry) (r F:KV) (hr:Tells rs r) (hF:Tells fs F) (hz:r.length+F.length<=sizeLine) (is:List Nat) (nd:is.Nodup) (hl:4=is.length):ay (E2 (W2 w b1 b2)) d os:=
 ay.sub (G0 (F.foldl fY r)) ⟨0,0,0,arrOf _,0,0,0,[],aA,dR _⟩ (b8 (au (W2 w b1 b2) 1076 0) (it+1109) (envOf (W2 w b1 b2) 1076 (l+1109))) [1,6,1,1] is
  [(a+1109,cnt da rs rp),(b+1109,cnt db fs fp),(l+1109,aL [aa (W2 w b1 b2) aY k0 (.ref (a+1109)),aa (W2 w b1 b2) de k1 (.ref (b+1109))] e0),(it+1109,c8 (b+1109) 0 fs.size fp .none .none .none)]
  nd hl (fun _=>.next) (fun x=>[(a+1109,cnt da x.rs x.rp),(b+1109,cnt db fs fp),(l+1109,aL (aa (W2 w b1 b2) aY x.k0 (.ref (a+1109))::aa (W2 w b1 b2) de x.k1 (.ref (b+1109))::x.ex) x.e0),(it+1109,x.it)]) (fun x=>x.j+1109) (fun x=>x.tk) (fun _=>True) (fun x=>by rw [<- hl];rfl) (by
   intro Γ h g p n tk Q aF hc hg bS k
   refine zf aF hc fun f0 f1 f2 f3 p0 p1 p2 p3 p4=>?_
   obtain ⟨j,rfl⟩:∃ j,n=j+1109:=⟨n - 1109,(Nat.sub_add_cancel (Nat.le_of_lt (Nat.lt_of_le_of_lt (Nat.le_add_left 1109 a) (bS.lt (i:=0) rfl)))).symm⟩
   exact vz w b1 b2 (hl▸Nat.le_refl _) hF vt F 0 rfl r rs rp _ .none .none j tk h g p hr (by simpa using hz) .f hg bS fun j' a8 iW kg cD mq h' g' ln fS bn bF=>by
    induction fS with | @f k0 k1 e0=>?_ | @l k0 k1 m0 m1 q0 q1 e0=>?_
    ·exact k ⟨j',a8,kg,iW,k0,k1,e0,[],mq,ln⟩ trivial h' g' bn bF
    ·exact k ⟨j',a8,kg,iW,k0,k1,e0,[_,_],mq,ln⟩ trivial h' g' bn bF)
end
end
section
variable {acc cl e0 it j l m0 m1 t t1 tk xe:Nat}{b1 b2:Bool}{d:Drawn}{f0 f1 f3 f4:FN}{kv vv:Int}{p0 p1 p2 p3 p4 p5:Pos}{w:World}{xs:Array Value}
theorem Ep {os:OsState}{t2:Nat}{f2:WL}(mH:decide (vv>0)=true):
  Qw w b1 b2 d os fun W=>⟨E2 W,3,⟨(dE (aW (au W 1062 0)) (it+1109) (acc+1109) (dn (aW (au W 1062 0)) (envOf W 1062 (l+1109)) (cl+1109))),none,none,[(fn f0,p0),(fn f1,p1),(wl f2,p2),(fn f3,p3),(fn f4,p4),(CC,p5)],none⟩,mh (aW (au W 1062 0)) (it+1109) (acc+1109) (.ref (t+1109)) (dn (aW (au W 1062 0)) (envOf W 1062 (l+1109)) (cl+1109)),[(cl+1109,aA),(t+1109,bb (.int kv t1) (.int vv t2)),(acc+1109,ad xs xe)],j+1109,tk,.u (fO vv 0 true mH)<| .e (.e (.again (dE (aW (au W 1062 0)) (it+1109) (acc+1109) (dn (aW (au W 1062 0)) (envOf W 1062 (l+1109)) (cl+1109)))) [(cl+1109,eM #[aa W bk tk (.int kv t1),aa W cb (tk+1) (.int vv t2)] 2),(t+1109,(bb (.int kv t1) (.int vv t2))),(acc+1109,(ad xs xe))] (j+1112) (tk+3))⟩:=ee 129 (Hx 0x1101111164424404044424404044424404044020222) [[]] [] (by kernel_rfl)
theorem Er {os:OsState}{t2:Nat}{f2:WL}(mH:decide (vv>0)=false) (hn:xs.size<=1000):
  Qw w b1 b2 d os fun W=>⟨E2 W,3,⟨(dE (aW (au W 1062 0)) (it+1109) (acc+1109) (dn (aW (au W 1062 0)) (envOf W 1062 (l+1109)) (cl+1109))),none,none,[(fn f0,p0),(fn f1,p1),(wl f2,p2),(fn f3,p3),(fn f4,p4),(CC,p5)],none⟩,mh (aW (au W 1062 0)) (it+1109) (acc+1109) (.ref (t+1109)) (dn (aW (au W 1062 0)) (envOf W 1062 (l+1109)) (cl+1109)),[(cl+1109,aA),(t+1109,bb (.int kv t1) (.int vv t2)),(acc+1109,ad xs xe)],j+1109,tk,.u (fO vv 0 false mH)<| .u (nK 2 (acc+1109) xe xs (.int kv t1) hn)<| .e (.e (.again (dE (aW (au W 1062 0)) (it+1109) (acc+1109) (dn (aW (au W 1062 0)) (envOf W 1062 (l+1109)) (cl+1109)))) [(cl+1109,eM #[aa W bk tk (.int kv t1),aa W cb (tk+1) (.int vv t2)] 2),(t+1109,(bb (.int kv t1) (.int vv t2))),(acc+1109,(ad (xs.push (Value.int kv t1)) (xe+1)))] (j+1112) (tk+3))⟩:=ee 135 (Hx 0x1101111164424404044424404044424404044020222) [[1,0,3,1],[]] [] (by kernel_rfl)
theorem Es {os:OsState}{q0 q1:Value}{t2:Nat}{f2:WL}(mH:decide (vv>0)=true):
  Qw w b1 b2 d os fun W=>⟨E2 W,3,⟨(dE (aW (au W 1062 0)) (it+1109) (acc+1109) (dn (aW (au W 1062 0)) (envOf W 1062 (l+1109)) (cl+1109))),none,none,[(fn f0,p0),(fn f1,p1),(wl f2,p2),(fn f3,p3),(fn f4,p4),(CC,p5)],none⟩,mh (aW (au W 1062 0)) (it+1109) (acc+1109) (.ref (t+1109)) (dn (aW (au W 1062 0)) (envOf W 1062 (l+1109)) (cl+1109)),[(cl+1109,eM #[aa W bk m0 q0,aa W cb m1 q1] e0),(t+1109,bb (.int kv t1) (.int vv t2)),(acc+1109,ad xs xe)],j+1109,tk,.u (fO vv 0 true mH)<| .e (.e (.again (dE (aW (au W 1062 0)) (it+1109) (acc+1109) (dn (aW (au W 1062 0)) (envOf W 1062 (l+1109)) (cl+1109)))) [(cl+1109,eM #[aa W bk m0 (.int kv t1),aa W cb m1 (.int vv t2)] e0),(t+1109,(bb (.int kv t1) (.int vv t2))),(acc+1109,(ad xs xe))] (j+1112) (tk+3))⟩:=ee 129 (Hx 0x1101111164424404044424404044424404044020222) [[]] [] (by kernel_rfl)
theorem Et {os:OsState}{q0 q1:Value}{t2:Nat}{f2:WL}(mH:decide (vv>0)=false) (hn:xs.size<=1000):
  Qw w b1 b2 d os fun W=>⟨E2 W,3,⟨(dE (aW (au W 1062 0)) (it+1109) (acc+1109) (dn (aW (au W 1062 0)) (envOf W 1062 (l+1109)) (cl+1109))),none,none,[(fn f0,p0),(fn f1,p1),(wl f2,p2),(fn f3,p3),(fn f4,p4),(CC,p5)],none⟩,mh (aW (au W 1062 0)) (it+1109) (acc+1109) (.ref (t+1109)) (dn (aW (au W 1062 0)) (envOf W 1062 (l+1109)) (cl+1109)),[(cl+1109,eM #[aa W bk m0 q0,aa W cb m1 q1] e0),(t+1109,bb (.int kv t1) (.int vv t2)),(acc+1109,ad xs xe)],j+1109,tk,.u (fO vv 0 false mH)<| .u (nK 2 (acc+1109) xe xs (.int kv t1) hn)<| .e (.e (.again (dE (aW (au W 1062 0)) (it+1109) (acc+1109) (dn (aW (au W 1062 0)) (envOf W 1062 (l+1109)) (cl+1109)))) [(cl+1109,eM #[aa W bk m0 (.int kv t1),aa W cb m1 (.int vv t2)] e0),(t+1109,(bb (.int kv t1) (.int vv t2))),(acc+1109,(ad (xs.push (Value.int kv t1)) (xe+1)))] (j+1112) (tk+3))⟩:=ee 135 (Hx 0x1101111164424404044424404044424404044020222) [[1,0,3,1],[]] [] (by kernel_rfl)
end
noncomputable def fZ (L:KV):List Int:=(L.filter fun x=>!decide (x.2>0)).map (·.1)
theorem mI (L:KV) (x:Int×Int):fZ (L++[x])=fZ L++(if decide (x.2>0) then [] else [x.1]):=by
 unfold fZ
 rw [List.filter_append,List.map_append]
 congr 1
 cases h:decide (x.2>0)<;>simp_all
inductive B4 (W:World):Obj->Prop
 | f:B4 W aA
 | l {m0 m1:Nat}{q0 q1:Value}{e0:Nat}:B4 W (eM #[aa W bk m0 q0,aa W cb m1 q1] e0)
noncomputable def Eu (W:World) (o:Obj):Prop:=∃ m0 m1 q0 q1 e0,o=eM #[aa W bk m0 q0,aa W cb m1 q1] e0
theorem nO {M:Model}{Γ:Ctx}{c:Code}{Q:Result->Shared->Prop}{p:Pos}{s:Shared}(aF:Γ.code=c) (hc:dW Γ=(none,none,none,[1,1,6,1,1],some CC)) (k:∀ f0 f1 f2 f3 f4 p0 p1 p2 p3 p4 p5,wpCode M ⟨c,none,none,[(fn f0,p0),(fn f1,p1),(wl f2,p2),(fn f3,p3),(fn f4,p4),(CC,p5)],none⟩ Q p s):wpCode M Γ Q p s:=
 lc aF hc fun l h=>f7 (D:=fun l=>wpCode M ⟨c,none,none,l,none⟩ Q p s) h fun f0 p0 l h=>f7 (D:=fun l=>wpCode M ⟨c,none,none,(fn f0,p0)::l,none⟩ Q p s) h fun f1 p1 l h=>l5 (D:=fun l=>wpCode M ⟨c,none,none,(fn f0,p0)::(fn f1,p1)::l,none⟩ Q p s) h fun f2 p2 l h=>gL (D:=fun l=>wpCode M ⟨c,none,none,(fn f0,p0)::(fn f1,p1)::(wl f2,p2)::l,none⟩ Q p s) h fun f3 f4 p3 p4 p5=>k f0 f1 f2 f3 f4 p0 p1 p2 p3 p4 p5
section
variable {d:Drawn}{os:OsState}{V:Heap}{U:Nat}{w:World}{b1 b2:Bool}{R:Result->Shared->Prop}
noncomputable abbrev Ev (w:World) (l it acc cl:Nat):Code:=dE (aW (au w 1062 0)) (it+1109) (acc+1109) (dn (aW (au w 1062 0)) (envOf w 1062 (l+1109)) (cl+1109))
noncomputable abbrev B5 (a da ep cl it acc xe:Nat) (es:Array DictEntry) (ns ito:Obj) (xs:Array Value):Mm:=[(a+1109,cnt da es ep),(cl+1109,ns),(it+1109,ito),(acc+1109,ad xs xe)]
theorem B6 (w:World):ol (dA (aW (au w 1062 0))).target:=fun _ _=>by kernel_rfl
theorem zi (w:World):((dA (aW (au w 1062 0))).is_async != 0)=false:=by kernel_rfl
theorem zj {l it acc cl a da ep:Nat}{es:Array DictEntry}{L:KV}{f0 f1:FN}{f2:WL}{f3 f4:FN}{p0 p1 p2 p3 p4 p5:Pos}(hk:U<=4) (hL:Tells es L) (hn:L.length<=1000):
  ∀ (cz:KV) (i:Nat),L.drop i=cz->∀ (ns:Obj) (ok ov:Value) (xs:Array Value) (xe j tk:Nat) (h:Heap) (g:Array GenState) (p:Pos),xs.size<=i->i<=L.length->ae xs (fZ (L.take i))->B4 (W2 w b1 b2) ns->(0 < i->Eu (W2 w b1 b2) ns)->AllBare g->
   Rep (Ad w b1 b2) V U (B5 a da ep cl it acc xe es ns (c8 (a+1109) i es.size ep .none ok ov) xs) (j+1109) h->
   (∀ j tk ns ito xs xe h g,(0 < L.length->Eu (W2 w b1 b2) ns)->ae xs (fZ L)->AllBare g->Rep (Ad w b1 b2) V U (B5 a da ep cl it acc xe es ns ito xs) (j+1109) h->R (.ok .next) ⟨h,g,d,tk,os⟩)->
   wpCode (AK w b1 b2) ⟨Ev (W2 w b1 b2) l it acc cl,none,none,[(fn f0,p0),(fn f1,p1),(wl f2,p2),(fn f3,p3),(fn f4,p4),(CC,p5)],none⟩ R p ⟨h,g,d,tk,os⟩:=by
 intro cz
 induction cz with
 | nil=>
  intro i hi ns ok ov xs xe j tk h g p gb nM hI bz oL hg rep fin
  have hN:L.length<=i:=by
   have:=congrArg List.length hi
   simp at this;lia
  refine qy (ii:=2) (di:=0) rfl (zi _) rfl hg rep rfl rfl rfl rfl (by rw [hL.size];exact hN) (fun h' n' o' hn bF=>?_) p
  have:n'=(n' - 1109)+1109:=by lia
  rw [this] at bF
  rw [List.take_of_length_le hN] at hI
  exact fin (n' - 1109) tk ns o' xs xe h' g (fun z=>oL (Nat.lt_of_lt_of_le z hN)) hI hg bF
 | cons x cz ih=>
  intro i hi ns ok ov xs xe j tk h g p gb nM hI bz oL hg rep fin
  obtain ⟨kv,vv⟩:=x
  have hx:L[i]?=some (kv,vv):=by
   have:=congrArg (fun l=>l[0]?) hi
   simpa using this
  have iR:i < L.length:=(List.getElem?_eq_some_iff.mp hx).1
  have et:L.take (i+1)=L.take i++[(kv,vv)]:=by rw [List.take_succ,hx];rfl
  obtain ⟨t,u,he⟩:=hL.at hx
  have eP:L.drop (i+1)=cz:=by
   have:=congrArg List.tail hi
   simpa using this
  refine oz (ii:=2) (di:=0) rfl (B6 _) (zi _) hg rep rfl rfl rfl rfl he (fun Jv=>?_) p
  refine Well.sub [1,4,3] rfl (by decide) rfl fun h1 cm=>?_
  have go:∀ (cD:Obj) (mC:Array Value) (sv n tk:Nat) (h2:Heap) (g2:Array GenState) (lw:Pos),mC.size<=i+1->ae mC (fZ (L.take (i+1)))->B4 (W2 w b1 b2) cD->Eu (W2 w b1 b2) cD->AllBare g2->Rep (E2 (W2 w b1 b2)) h1 3 [(cl+1109,cD),(j+1109,bb (.int kv t) (.int vv u)),(acc+1109,ad mC sv)] (n+1109) h2->
    wpCode (Mo (E2 (W2 w b1 b2))) ⟨Ev (W2 w b1 b2) l it acc cl,none,none,[(fn f0,p0),(fn f1,p1),(wl f2,p2),(fn f3,p3),(fn f4,p4),(CC,p5)],none⟩ R lw ⟨h2,g2,d,tk,os⟩:=by
   intro cD mC sv n tk h2 g2 lw y0 lq fS y4 ag ac
   have aV:=cm.join' [1,4,3] (by decide) rfl ac rfl
   have bC:=aV.pick [0,1,2,3] 4 (by decide) (by decide) hk rfl
   exact ih (i+1) eP cD _ _ mC sv n tk h2 g2 lw y0 iR lq fS (fun _=>y4) ag bC fin
  cases hp:decide (vv>0) with
  | true=>
   have hf:fZ (L.take (i+1))=fZ (L.take i):=by rw [et,mI,hp];simp
   induction bz with
   | f=>exact Ep (j:=j+1) (t:=j) hp _ (Nat.le_refl _) fun lw h2 g2 ag ac=>go _ _ _ _ _ h2 g2 lw (by lia) (hf▸hI) .l ⟨_,_,_,_,_,rfl⟩ ag ac
   | l=>exact Es (j:=j+1) (t:=j) hp _ (Nat.le_refl _) fun lw h2 g2 ag ac=>go _ _ _ _ _ h2 g2 lw (by lia) (hf▸hI) .l ⟨_,_,_,_,_,rfl⟩ ag ac
  | false=>
   have hf:fZ (L.take (i+1))=fZ (L.take i)++[kv]:=by rw [et,mI,hp];simp
   induction bz with
   | f=>exact Er (j:=j+1) (t:=j) hp (by lia) _ (Nat.le_refl _) fun lw h2 g2 ag ac=>go _ _ _ _ _ h2 g2 lw (by rw [Array.size_push];lia) (hf▸hI.push _ _) .l ⟨_,_,_,_,_,rfl⟩ ag ac
   | l=>exact Et (j:=j+1) (t:=j) hp (by lia) _ (Nat.le_refl _) fun lw h2 g2 ag ac=>go _ _ _ _ _ h2 g2 lw (by rw [Array.size_push];lia) (hf▸hI.push _ _) .l ⟨_,_,_,_,_,rfl⟩ ag ac
structure Jy (ks:List Int) where
 xs:Array Value
 xe:Nat
 hI:ae xs ks
 m0:Nat
 m1:Nat
 q0:Value
 q1:Value
 e0:Nat
 it:Obj
 j:Nat
 tk:Nat
noncomputable def G1 (l it acc cl a da ep:Nat) {es:Array DictEntry}{L:KV}(hL:Tells es L) (hn:L.length<=1000) (bx:0 < L.length) (is:List Nat) (nd:is.Nodup) (hl:4=is.length):ay (E2 (W2 w b1 b2)) d os:=
 ay.sub (Jy (fZ L)) ⟨_,0,eX _,0,0,.none,.none,0,aA,0,0⟩ (Ev (W2 w b1 b2) l it acc cl) [1,1,6,1,1] is (B5 a da ep cl it acc 0 es aA (c8 (a+1109) 0 es.size ep .none .none .none) #[])
  nd hl (fun _=>.next) (fun x=>B5 a da ep cl it acc x.xe es (eM #[aa (W2 w b1 b2) bk x.m0 x.q0,aa (W2 w b1 b2) cb x.m1 x.q1] x.e0) x.it x.xs) (fun x=>x.j+1109) (fun x=>x.tk) (fun _=>True) (fun x=>by rw [<- hl];rfl) (by
   intro Γ h g p n tk Q aF hc hg hr k
   refine nO aF hc fun f0 f1 f2 f3 f4 p0 p1 p2 p3 p4 p5=>?_
   obtain ⟨j,rfl⟩:=bY (i:=0) hr rfl
   refine zj (hl▸Nat.le_refl _) hL hn L 0 rfl aA .none .none #[] 0 j tk h g p (Nat.le_refl _) (Nat.zero_le _) ae.nil .f (fun z=>absurd z (Nat.lt_irrefl _)) hg hr fun j' a8 ns ito xs xe h' g' oL hI bn bF=>?_
   obtain ⟨m0,m1,q0,q1,e0,rfl⟩:=oL bx
   exact k ⟨xs,xe,hI,m0,m1,q0,q1,e0,ito,j',a8⟩ trivial h' g' bn bF)
end
noncomputable def fA:KV->Int->KV
 | [],_=>[]
 | x::l,k=>if x.1=k then l else x::fA l k
noncomputable def nP (es:Array DictEntry) (k:Int):Array DictEntry:=match es.findIdx? fun e=>Value.isInt k e.key with
 | some i=>es.eraseIdxIfInBounds i
 | none=>es
theorem sF (es:List DictEntry) (k:Int):(nP es.toArray k).toList=match es.findIdx? fun (e:DictEntry)=>Value.isInt k e.key with
 | some i=>es.eraseIdx i
 | none=>es:=by
 unfold nP
 rw [List.findIdx?_toArray]
 cases h:es.findIdx? fun e=>Value.isInt k e.key with
 | none=>rfl
 | some i=>simp
theorem Tells.del {es:Array DictEntry}{l:KV}(h:Tells es l) (k:Int):Tells (nP es k) (fA l k):=by
 have key:∀ (es:List DictEntry) (l:KV),Tells es.toArray l->Tells (match es.findIdx? fun (e:DictEntry)=>Value.isInt k e.key with
   | some i=>es.eraseIdx i
   | none=>es).toArray (fA l k):=by
  refine Tells.ind (by exact jf) fun k' c t u es l h ih=>?_
  rw [List.findIdx?_cons]
  show Tells _ (if k'=k then l else (k',c)::fA l k)
  rw [show Value.isInt k (Value.int k' t)=decide (k'=k) from jg _ _ _]
  by_cases e:k'=k
  ·rw [if_pos e,decide_eq_true e];exact h
  ·rw [if_neg e,decide_eq_false e]
   cases hi:es.findIdx? fun e=>Value.isInt k e.key with
   | none=>rw [hi] at ih;exact iu ih
   | some i=>rw [hi] at ih;exact iu ih
 have z:=key es.toList l (by simpa using h)
 rw [<- sF] at z
 simpa using z
theorem B7 {E:En}{Γ:Ctx}{R:Result->Shared->Prop}{p:Pos}{s:Shared}{d:Addr}{o:Obj}{es:Array DictEntry}{ep:Nat}{k:Int}{t:Tok}{v:Value}(aF:Γ.code=.builtin "dict.__delitem__" ⟨[.ref d,.int k t],[]⟩)
  (ho:s.heap.get? d=some o) (hd:o.data=.dict es ep) (hk:IntKeys es) (ax:es.size<=sizeLine) (hf:findBy Value.isInt es k=some v) (j7:ip E o) (base:∀ a o,E.T.get a=some o->g8 a E.mu=false->s.heap.get? a=some o)
  (h:∀ h',h'.get? d=some ⟨o.cls,o.dict,.dict (nP es k) (ep+1),o.slots⟩->Heap.SameBut d s.heap h'->R (.ok (.ret .none)) {s with heap:=h',toks:=s.toks+1}):wpCode (Mo E) Γ R p s:=by
 refine am aF F.entry_dict_delitem ?_
 show wp _ _ (Builtin.Dict.dictSlotArgs "__delitem__" ⟨[.ref d,.int k t],[]⟩>>=_) _ _ _ _
 rw [Sem.wp_bind']
 refine Sem.wp_mono _ _ _ (fun a p' s1 h'=>?_) (fun e p' s' h'=>h'.elim) _ _ (aR (Q:=fun a s1=>a=(.ref d,.int k t)/\s1=s) (E:=fun _ _=>False) (by
  unfold Builtin.Dict.dictSlotArgs
  exact wpAny_bind (fu rfl ho j7 base (wpAny_pure ⟨rfl,rfl⟩))) p)
 obtain ⟨rfl,rfl⟩:=h'
 show wp _ _ (Builtin.Dict.takeOut d (.int k t)>>=_) _ _ _ _
 rw [Sem.wp_bind']
 refine Sem.wp_mono _ _ _ (fun a p' s' h'=>by obtain ⟨e,rfl,h'⟩:=h';exact h' p') (fun e p' s' h'=>h'.elim) _ _ (aR (Q:=fun a s'=>∃ e,a=some e/\∀ p,wp (Mo E) Γ (letGo [e.key,e.val]>>=fun _=>ret .none) (finPost (Mo E) Γ R) (fun e _ s'=>R (.error e) s') p s') (E:=fun _ _=>False) ?_ p')
 unfold Builtin.Dict.takeOut
 try with_reducible refine wpAny_holding ?_
 refine wpAny_bind (wpAny_pyHash_int ?_)
 refine wpAny_bind (wpAny_dictFind_int (s:={s1 with toks:=s1.toks+1}) ho hd hk ?_)
 cases hi:es.findIdx? fun e=>Value.isInt k e.key with
 | none=>
  rw [findBy_of_findIdx?,hi] at hf
  cases hf
 | some i=>
  obtain ⟨iR,_⟩:=Array.findIdx?_eq_some_iff_getElem.mp hi
  refine wpAny_bind (wpAny_dictEntries (s:={s1 with toks:=s1.toks+1}) ho hd ?_)
  rw [getElem?_pos es i iR]
  refine wpAny_bind (wpAny_updateDictKeys (s:={s1 with toks:=s1.toks+1}) ho hd (wpAny_pure ⟨_,rfl,fun p=>?_⟩) ax (by unfold Array.eraseIdxIfInBounds;split<;>simp<;>lia))
  rw [Sem.wp_bind']
  refine Sem.wp_mono _ _ _ (fun a p' s' h'=>h' p') (fun e p' s' h'=>h'.elim) _ _ (aR (Q:=fun _ s'=>∀ p,wp (Mo E) Γ (ret .none) (finPost (Mo E) Γ R) (fun e _ s'=>R (.error e) s') p s') (E:=fun _ _=>False) (wpAny_letGo fun p=>?_) p)
  refine h _ ?_ (Heap.SameBut.update ..)
  obtain ⟨c,dd,dt,sl⟩:=o
  simp only at hd;subst hd
  rw [Heap.get?_update_self _ ho rfl]
  unfold nP
  rw [hi];rfl
section
variable {E:En}{d:Drawn}{os:OsState}
noncomputable def zk (o:Obj) (es:Array DictEntry) (ep:Nat) (k:Int):Obj:=⟨o.cls,o.dict,.dict (nP es k) (ep+1),o.slots⟩
noncomputable def C8 (i:Nat) (a:Addr) (o:Obj) (es:Array DictEntry) (ep:Nat) (hd:o.data=.dict es ep) (hk:IntKeys es) (ax:es.size<=sizeLine) (j7:ip E o) (k:Int) (v:Value) (hf:findBy Value.isInt es k=some v):ay E d os:=
 ay.leaf Unit () (fun q=>(bG q.code,Y q.m i)) (some ("dict.__delitem__",[.ref a,.int k 0]),some (a,o)) (fun _ _=>.none) (fun _ q=>aK q.m i (zk o es ep k)) (fun _ q=>q.n) (fun _ q=>q.tk+1) (fun _=>True) (by
  intro V U q Q h g e hc hg hr kk
  obtain ⟨e1,e2⟩:=Prod.ext_iff.mp e
  obtain ⟨pos,e3,e4⟩:=b7 e1
  obtain ⟨x,y,rfl,h1,h2⟩:=map_two e4
  obtain rfl:=bw h1
  obtain ⟨u,rfl⟩:=aO h2
  refine B7 (hc.trans e3) (hr.own _ _ _ e2) hd hk ax hf j7 hr.base fun h' oj ca=>?_
  exact kk () trivial h' g hg (hr.chg e2 oj (ca.1.trans hr.size) (Nat.le_refl _) fun b x hb hx=>(ca.2 b hb).trans hx))
noncomputable def zl (i:Nat) (a:Addr) (o:Obj) (es:Array DictEntry) (ep:Nat) (hd:o.data=.dict es ep) (hk:IntKeys es) (k:Int) (r:Bool) (hf:(findBy Value.isInt es k).isSome=r):ay E d os:=
 ay.leaf Unit () (fun q=>(bG q.code,Y q.m i)) (some ("dict.__contains__",[.ref a,.int k 0]),some (a,o)) (fun _ _=>.bool r) (fun _ q=>q.m) (fun _ q=>q.n) (fun _ q=>q.tk+1) (fun _=>True) (by
  intro V U q Q h g e hc hg hr kk
  obtain ⟨e1,e2⟩:=Prod.ext_iff.mp e
  obtain ⟨pos,e3,e4⟩:=b7 e1
  obtain ⟨x,y,rfl,h1,h2⟩:=map_two e4
  obtain rfl:=bw h1
  obtain ⟨u,rfl⟩:=aO h2
  refine oi (hc.trans e3) (hr.own _ _ _ e2) hd hk ?_
  rw [hf]
  exact kk () trivial h g hg hr)
end
section
variable {a da e0 i it j k0 k1 k2 l np rp t1 tk xe:Nat}{b1 b2:Bool}{d:Drawn}{f0 f1 f3 f4:FN}{kv ov:Int}{p0 p1 p2 p3 p4 p5:Pos}{rs:Array DictEntry}{w:World}{xs:Array Value}
noncomputable def cr:Str:=sZ 0x6576697469736f706e6f6e
theorem G3 {os:OsState}{t3:Nat}{f2:WL}(hx:xs[i]?=some (.int kv t1)) (dj:IntKeys rs) (ax:rs.size<=sizeLine) (dN:findBy Value.isInt rs kv=some (.int ov t3)) (dx:(findBy Value.isInt rs kv).isSome=true):
  Qw w b1 b2 d os fun W=>⟨E2 W,4,⟨(b8 (au W 1062 1) (it+1109) (envOf W 1062 (l+1109))),none,none,[(fn f0,p0),(fn f1,p1),(wl f2,p2),(fn f3,p3),(fn f4,p4),(CC,p5)],none⟩,den (b8 (au W 1062 1) (it+1109) (envOf W 1062 (l+1109))),[(a+1109,(cnt da rs rp)),(l+1109,aL [aa W aY k0 (.ref (a+1109)),aa W cr k1 (.ref (np+1109))] e0),(np+1109,ad xs xe),(it+1109,bP (np+1109) i)],j+1109,tk,.u (cH 3 2 (it+1109) (np+1109) i xe xs (.int kv t1) hx)<| .u (zl 0 (a+1109) (cnt da rs rp) rs rp rfl dj kv true dx)<| .u (C8 0 (a+1109) (cnt da rs rp) rs rp rfl dj ax (bH _ _ _ _) kv (.int ov t3) dN)<| .e (.e (.again (b8 (au W 1062 1) (it+1109) (envOf W 1062 (l+1109)))) [(a+1109,(zk (cnt da rs rp) rs rp kv)),(l+1109,aL [aa W aY k0 (.ref (a+1109)),aa W cr k1 (.ref (np+1109)),aa W bk tk (.int kv t1)] (e0+1)),(np+1109,(ad xs xe)),(it+1109,(bP (np+1109) (i+1)))] (j+1112) (tk+6))⟩:=ee 185 [4,0,4,1] [(Hx 0x11010000100015520555500000001012222),(Hx 0x11707501000066606066666666011006066000000500000),[]] [] (by kernel_rfl)
theorem G4 {os:OsState}{t3:Nat}{q2:Value}{f2:WL}(hx:xs[i]?=some (.int kv t1)) (dj:IntKeys rs) (ax:rs.size<=sizeLine) (dN:findBy Value.isInt rs kv=some (.int ov t3)) (dx:(findBy Value.isInt rs kv).isSome=true):
  Qw w b1 b2 d os fun W=>⟨E2 W,4,⟨(b8 (au W 1062 1) (it+1109) (envOf W 1062 (l+1109))),none,none,[(fn f0,p0),(fn f1,p1),(wl f2,p2),(fn f3,p3),(fn f4,p4),(CC,p5)],none⟩,den (b8 (au W 1062 1) (it+1109) (envOf W 1062 (l+1109))),[(a+1109,(cnt da rs rp)),(l+1109,aL [aa W aY k0 (.ref (a+1109)),aa W cr k1 (.ref (np+1109)),aa W bk k2 q2] e0),(np+1109,ad xs xe),(it+1109,bP (np+1109) i)],j+1109,tk,.u (cH 3 2 (it+1109) (np+1109) i xe xs (.int kv t1) hx)<| .u (zl 0 (a+1109) (cnt da rs rp) rs rp rfl dj kv true dx)<| .u (C8 0 (a+1109) (cnt da rs rp) rs rp rfl dj ax (bH _ _ _ _) kv (.int ov t3) dN)<| .e (.e (.again (b8 (au W 1062 1) (it+1109) (envOf W 1062 (l+1109)))) [(a+1109,(zk (cnt da rs rp) rs rp kv)),(l+1109,aL [aa W aY k0 (.ref (a+1109)),aa W cr k1 (.ref (np+1109)),aa W bk k2 (.int kv t1)] e0),(np+1109,(ad xs xe)),(it+1109,(bP (np+1109) (i+1)))] (j+1112) (tk+6))⟩:=ee 185 [4,0,4,1] [(Hx 0x11010000100015520555500000001012222),(Hx 0x11707501000066606066666666011006066000000500000),[]] [] (by kernel_rfl)
theorem G5 {os:OsState}{f2:WL}(hx:xs.size<=i):
  Qw w b1 b2 d os fun W=>⟨E2 W,2,⟨(b8 (au W 1062 1) (it+1109) (envOf W 1062 (l+1109))),none,none,[(fn f0,p0),(fn f1,p1),(wl f2,p2),(fn f3,p3),(fn f4,p4),(CC,p5)],none⟩,den (b8 (au W 1062 1) (it+1109) (envOf W 1062 (l+1109))),[(np+1109,ad xs xe),(it+1109,bP (np+1109) i)],j+1109,tk,.c (jI 1 0 (it+1109) (np+1109) i xe xs hx) fun x1=>.e (.e (.done .next) [(np+1109,(ad xs xe)),(it+1109,(x1))] (j+1111) tk)⟩:=ee 69 [2,0,2,1] [[4,0]] [] (by kernel_rfl)
end
theorem vA {r:KV}{k k':Int}(h:k'∈r.map (·.1)) (hk:k'≠k):k'∈(fA r k).map (·.1):=by
 induction r with
 | nil=>exact h
 | cons x r ih=>
  show k'∈(if x.1=k then r else x::fA r k).map (·.1)
  rw [List.map_cons] at h
  by_cases e:x.1=k
  ·rw [if_pos e]
   rcases List.mem_cons.mp h with z | z
   ·exact absurd (z.trans e) hk
   ·exact z
  ·rw [if_neg e,List.map_cons]
   rcases List.mem_cons.mp h with z | z
   ·exact z▸List.mem_cons_self ..
   ·exact List.mem_cons_of_mem _ (ih z)
theorem vB (r:KV) (k:Int):(fA r k).length<=r.length:=by
 induction r with
 | nil=>exact Nat.le_refl _
 | cons x r ih=>
  show (if x.1=k then r else x::fA r k).length<=_
  by_cases e:x.1=k
  ·rw [if_pos e];exact Nat.le_succ _
  ·rw [if_neg e];exact Nat.succ_le_succ ih
inductive B8 (W:World) (a np:Nat):Obj->Prop
 | f {k0 k1 e0:Nat}:B8 W a np (aL [aa W aY k0 (.ref (a+1109)),aa W cr k1 (.ref (np+1109))] e0)
 | l {k0 k1 k2 e0:Nat}{q2:Value}:B8 W a np (aL [aa W aY k0 (.ref (a+1109)),aa W cr k1 (.ref (np+1109)),aa W bk k2 q2] e0)
section
variable {d:Drawn}{os:OsState}{V:Heap}{U:Nat}{w:World}{b1 b2:Bool}{R:Result->Shared->Prop}
noncomputable abbrev G6 (w:World) (l it:Nat):Code:=b8 (au w 1062 1) (it+1109) (envOf w 1062 (l+1109))
noncomputable abbrev B9 (a da rp l np xe it:Nat) (rs:Array DictEntry) (ns ito:Obj) (xs:Array Value):Mm:=[(a+1109,cnt da rs rp),(l+1109,ns),(np+1109,ad xs xe),(it+1109,ito)]
theorem zm {l it a da np xe:Nat}{xs:Array Value}{A:List Int}{f0 f1:FN}{f2:WL}{f3 f4:FN}{p0 p1 p2 p3 p4 p5:Pos}(hk:U<=4) (hA:ae xs A):
  ∀ (cz:List Int) (i:Nat),A.drop i=cz->∀ (r:KV) (rs:Array DictEntry) (rp:Nat) (ns:Obj) (j tk:Nat) (h:Heap) (g:Array GenState) (p:Pos),Tells rs r->r.length<=1000->cz.Nodup->(∀ k∈cz,k∈r.map (·.1))->B8 (W2 w b1 b2) a np ns->AllBare g->
   Rep (Ad w b1 b2) V U (B9 a da rp l np xe it rs ns (Aw np i) xs) (j+1109) h->
   (∀ j tk rs rp ns ito h g,Tells rs (cz.foldl fA r)->B8 (W2 w b1 b2) a np ns->AllBare g->Rep (Ad w b1 b2) V U (B9 a da rp l np xe it rs ns ito xs) (j+1109) h->R (.ok .next) ⟨h,g,d,tk,os⟩)->
   wpCode (AK w b1 b2) ⟨G6 (W2 w b1 b2) l it,none,none,[(fn f0,p0),(fn f1,p1),(wl f2,p2),(fn f3,p3),(fn f4,p4),(CC,p5)],none⟩ R p ⟨h,g,d,tk,os⟩:=by
 intro cz
 induction cz with
 | nil=>
  intro i hi r rs rp ns j tk h g p hT hz hV hm bz hg rep fin
  have hx:xs.size<=i:=by rw [hA.size];exact List.drop_eq_nil_iff.mp hi
  refine bc (E:=E2 (W2 w b1 b2)) (V:=h) (U:=2) hg (rep.sub [2,3] (aE rfl) (by decide)) ?_
  refine G5 hx p (Nat.le_refl _) fun x _ p2 h2 g2 ag ac=>?_
  exact fin (j+2) _ rs rp ns _ h2 g2 hT bz ag (rep.join' [2,3] (by decide) rfl ac rfl)
 | cons kv cz ih=>
  intro i hi r rs rp ns j tk h g p hT hz hV hm bz hg rep fin
  have DS:A[i]?=some kv:=by
   have:=congrArg (fun l=>l[0]?) hi
   simpa using this
  have eP:A.drop (i+1)=cz:=by
   have:=congrArg List.tail hi
   simpa using this
  obtain ⟨t,hx⟩:=hA.get DS
  obtain ⟨c,hc⟩:=mD (hm kv (List.mem_cons_self ..))
  obtain ⟨u,hu⟩:=hT.hit hc
  have dx:(findBy Value.isInt rs kv).isSome=true:=by rw [hu];rfl
  have ax:rs.size<=sizeLine:=by rw [hT.size];exact cG hz
  have zn:=List.nodup_cons.mp hV
  have vC:∀ k∈cz,k∈(fA r kv).map (·.1):=fun k hk=>vA (hm k (List.mem_cons_of_mem _ hk)) fun e=>zn.1 (e▸hk)
  have Ew:(fA r kv).length<=1000:=Nat.le_trans (vB _ _) hz
  refine bc (E:=E2 (W2 w b1 b2)) hg rep ?_
  induction bz with
  | f=>exact G3 hx hT.keys ax hu dx p hk fun p2 h2 g2 ag ac=>ih (i+1) eP _ _ _ _ _ _ h2 g2 p2 (hT.del kv) Ew zn.2 vC .l ag ac fin
  | l=>exact G4 hx hT.keys ax hu dx p hk fun p2 h2 g2 ag ac=>ih (i+1) eP _ _ _ _ _ _ h2 g2 p2 (hT.del kv) Ew zn.2 vC .l ag ac fin
structure Ex (F:KV) where
 rs:Array DictEntry
 rp:Nat
 hT:Tells rs F
 k0:Nat
 e0:Nat
 ex:List DictEntry
 ito:Obj
 j:Nat
 tk:Nat
noncomputable def G7 (l it a da rp np xe k0 k1 e0:Nat) {rs:Array DictEntry}{r:KV}{xs:Array Value}{A:List Int}(hA:ae xs A) (hT:Tells rs r) (hz:r.length<=1000) (hV:A.Nodup) (hm:∀ k∈A,k∈r.map (·.1)) (is:List Nat) (nd:is.Nodup) (hl:4=is.length):ay (E2 (W2 w b1 b2)) d os:=
 ay.sub (Ex (A.foldl fA r)) ⟨_,0,dR _,0,0,[],aA,0,0⟩ (G6 (W2 w b1 b2) l it) [1,1,6,1,1] is
  (B9 a da rp l np xe it rs (aL [aa (W2 w b1 b2) aY k0 (.ref (a+1109)),aa (W2 w b1 b2) cr k1 (.ref (np+1109))] e0) (bP (np+1109) 0) xs)
  nd hl (fun _=>.next) (fun x=>B9 a da x.rp l np xe it x.rs (aL (aa (W2 w b1 b2) aY x.k0 (.ref (a+1109))::x.ex) x.e0) x.ito xs) (fun x=>x.j+1109) (fun x=>x.tk) (fun _=>True) (fun x=>by rw [<- hl];rfl) (by
   intro Γ h g p n tk Q aF hc hg hr k
   refine nO aF hc fun f0 f1 f2 f3 f4 p0 p1 p2 p3 p4 p5=>?_
   obtain ⟨j,rfl⟩:=bY (i:=0) hr rfl
   exact zm (hl▸Nat.le_refl _) hA A 0 rfl r rs rp _ j tk h g p hT hz hV hm .f hg hr fun j' a8 iW kg cD mq h' g' ki bz bn bF=>by
    induction bz with
    | @f k0 k1 e0=>exact k ⟨iW,kg,ki,k0,e0,[_],mq,j',a8⟩ trivial h' g' bn bF
    | @l k0 k1 k2 e0 q2=>exact k ⟨iW,kg,ki,k0,e0,[_,_],mq,j',a8⟩ trivial h' g' bn bF)
end
noncomputable def kl (d i n ep:Nat):Obj:=⟨.type "dict_valueiterator",none,.fields #[.ref d,.int i 0,.int n 0,.int ep 0],#[]⟩
section
variable {prog:Program}{w:World}{A:Around}{X:Value->Shared->Prop}{s:Shared}{it d i n ep:Nat}{od:Obj}{es:Array DictEntry}
theorem sH {e:DictEntry}{Q:Option Value->Shared->Prop}(hit:s.heap.get? it=some (kl d i n ep)) (cZ:s.heap.get? d=some od) (bT:od.data=.dict es ep) (ax:es.size=n) (hx:es[i]?=some e)
  (hQ:∀ h',h'.get? it=some (kl d (i+1) n ep)->Heap.SameBut it s.heap h'->Q (some e.val) {s with heap:=h'}):wpAny (model prog w) A (pyNext (.ref it)) Q X s:=by
 have hT:s.TypeIs (.ref it) "dict_valueiterator":=⟨_,hit,rfl⟩
 unfold pyNext
 refine wpAny_bind (wpAny_attempt (wpAny_callSpecial?_slot (name:=Str.ofString "__next__") hT F.slot_dict_valueiterator_next
  (wpAny_call_entry F.slot_dict_valueiterator_next hT F.entry_dict_valueiterator_next ?_ (F.args_dict_valueiterator_next_1 _))))
 refine wpAny_bind (wpAny_pure ?_)
 refine wpAny_bind ?_
 refine wpAny_bind ?_
 first | refine wpAny_bind (wpAny_typeNameOfWhole_valiter hT (wpAny_pure ?_)) | refine wpAny_bind (wpAny_typeNameOf_valiter hT (wpAny_pure ?_))
 refine wpAny_bind (wpAny_fieldsOf hit rfl ?_)
 have dJ:Builtin.Dict_items.ownsTuple "dict_valueiterator"=false:=by decide
 simp only [dJ,Bool.false_eq_true,if_false]
 show wpAny _ _ (if (Value.ref d==Value.none)=true then _ else _) _ _ s
 rw [if_neg (show ¬ ((Value.ref d==Value.none)=true) from Bool.false_ne_true)]
 refine wpAny_bind (wpAny_pure ?_)
 refine wpAny_bind (wpAny_dictEntries cZ bT ?_)
 rw [if_neg (by rw [ax];simp)]
 refine wpAny_bind (wpAny_pure ?_)
 refine wpAny_bind (wpAny_dictEpoch cZ bT ?_)
 rw [if_neg (by simp)]
 refine wpAny_pure ?_
 simp only [show ¬ ((i:Int) < 0) from by lia,if_false,Int.toNat_natCast,hx]
 refine wpAny_bind ?_
 first | refine wpAny_bind (wpAny_typeNameOfWhole_valiter hT (wpAny_pure ?_)) | refine wpAny_bind (wpAny_typeNameOf_valiter hT (wpAny_pure ?_))
 refine wpAny_bind (wpAny_isOneOf_valiter hT ?_)
 show wpAny _ _ (setField (.ref it) 1 (rawInt ((i:Int)+1))>>=_) _ _ s
 refine wpAny_bind (wpAny_setField_rec hit (by simp) fun h₁ bO bv=>?_)
 have ce:h₁.get? it=some (kl d (i+1) n ep):=bO
 refine wpAny_bind (wpAny_holding ?_)
 refine wpAny_bind (wpAny_isOneOf_valiter (s:={s with heap:=h₁}) ⟨_,ce,rfl⟩ ?_)
 refine wpAny_bind (wpAny_isOneOf_valiter (s:={s with heap:=h₁}) ⟨_,ce,rfl⟩ ?_)
 show wpAny _ _ (pure e.val) _ _ _
 exact wpAny_pure (wpAny_pure ⟨_,rfl,wpAny_pure (hQ h₁ ce bv)⟩)
theorem sI {Q:Option Value->Shared->Prop}(hh:A.handled=none) (hit:s.heap.get? it=some (kl d i n ep)) (cZ:s.heap.get? d=some od) (bT:od.data=.dict es ep) (ax:es.size=n) (hx:n<=i)
  (hQ:∀ h',Heap.ExtBut it s.heap h'->Q none {s with heap:=h'}):wpAny (model prog w) A (pyNext (.ref it)) Q X s:=by
 have hT:s.TypeIs (.ref it) "dict_valueiterator":=⟨_,hit,rfl⟩
 unfold pyNext
 refine wpAny_bind (wpAny_attempt (wpAny_callSpecial?_slot (name:=Str.ofString "__next__") hT F.slot_dict_valueiterator_next
  (wpAny_call_entry F.slot_dict_valueiterator_next hT F.entry_dict_valueiterator_next ?_ (F.args_dict_valueiterator_next_1 _))))
 refine wpAny_bind (wpAny_pure ?_)
 refine wpAny_bind ?_
 refine wpAny_bind ?_
 first | refine wpAny_bind (wpAny_typeNameOfWhole_valiter hT (wpAny_pure ?_)) | refine wpAny_bind (wpAny_typeNameOf_valiter hT (wpAny_pure ?_))
 refine wpAny_bind (wpAny_fieldsOf hit rfl ?_)
 have dJ:Builtin.Dict_items.ownsTuple "dict_valueiterator"=false:=by decide
 simp only [dJ,Bool.false_eq_true,if_false]
 show wpAny _ _ (if (Value.ref d==Value.none)=true then _ else _) _ _ s
 rw [if_neg (show ¬ ((Value.ref d==Value.none)=true) from Bool.false_ne_true)]
 refine wpAny_bind (wpAny_pure ?_)
 refine wpAny_bind (wpAny_dictEntries cZ bT ?_)
 rw [if_neg (by rw [ax];simp)]
 refine wpAny_bind (wpAny_pure ?_)
 refine wpAny_bind (wpAny_dictEpoch cZ bT ?_)
 rw [if_neg (by simp)]
 refine wpAny_pure ?_
 have rF:es.size<=i:=by rw [ax];exact hx
 simp only [show ¬ ((i:Int) < 0) from by lia,if_false,Int.toNat_natCast,Array.getElem?_eq_none rF]
 refine wpAny_bind ?_
 first | refine wpAny_bind (wpAny_typeNameOfWhole_valiter hT (wpAny_pure ?_)) | refine wpAny_bind (wpAny_typeNameOf_valiter hT (wpAny_pure ?_))
 show wpAny _ _ (setField (.ref it) 0 .none>>=_) _ _ s
 refine wpAny_bind (wpAny_setField hit rfl (by simp) ?_)
 show wpAny _ _ (newExc (.type "StopIteration") []>>=_) _ _ _
 refine wpAny_bind ?_
 simp only [newExc,newTuple]
 refine wpAny_bind (wpAny_newObj_type ?_ (by size_fits))
 refine wpAny_bind (m:=firstArgMember _ _) (wpAny_of_eq (a:=Value.none) (by first | rfl | (simp only [firstArgMember];rfl)) ?_)
 refine wpAny_newObj_type ?_ (by size_fits)
 simp only [raiseNew]
 refine wpAny_bind (wpAny_handled ?_)
 rw [show A.in1.handled=none from hh]
 refine wpAny_bind (wpAny_pure (wpAny_throw ?_))
 refine wpAny_bind (wpAny_isInstance (T:="StopIteration") (b:=true) ⟨_,Heap.get?_push_size _ rfl,rfl⟩ isSubtype_stop ?_)
 exact wpAny_pure (hQ _ (((Heap.SameBut.update ..).extBut.push _).push _))
theorem sJ (hh:A.handled=none) (bx:d≠it) (bT:od.data=.dict es ep):
  Walks prog w A it [it,d] [it] es.size (fun i v=>∃ e,es[i]?=some e/\v=e.val) (fun i h=>h.get? it=some (kl d i es.size ep)/\h.get? d=some od) where
 sub:=fun b hb=>by simp at hb;simp [hb]
 frame:=fun _ _ _ st hk=>⟨hk it (by simp) _ st.1,hk d (by simp) _ st.2⟩
 item:=fun i s Q E hi st hQ=>by
  refine sH st.1 st.2 bT rfl (Array.getElem?_eq_getElem hi) fun h' qF ca=>?_
  exact hQ _ h' s.toks ⟨_,Array.getElem?_eq_getElem hi,rfl⟩ ⟨qF,(ca.2 d bx).trans st.2⟩ fun b o hb e=>(ca.2 b fun h=>hb (by simp [h])).trans e
 done:=fun s Q E st hQ=>sI hh st.1 st.2 bT rfl (Nat.le_refl _) fun h' Jz=>hQ h' s.toks fun b o hb e=>Jz b o (fun h=>hb (by simp [h])) e
 self:=fun i s Q E st hQ=>wpAny_pyIter_valiter (i:=i) (n:=es.size) (ep:=ep) (d:=d) ⟨_,st.1,rfl,rfl⟩ hQ
theorem sK {v:Nat}{Q:Value->Shared->Prop}(hv:s.heap.get? v=some ⟨.type "dict_values",none,.fields #[.ref d],#[]⟩) (cZ:s.heap.get? d=some od) (bT:od.data=.dict es ep)
  (hQ:Q (.ref s.heap.objs.size) {s with heap:=s.heap.push (kl d 0 es.size ep)}):wpAny (model prog w) A (pyIter (.ref v)) Q X s:=by
 have hT:s.TypeIs (.ref v) "dict_values":=⟨_,hv,rfl⟩
 refine wpAny_pyIter_slot hT F.slot_dict_values_iter (wpAny_call_entry F.slot_dict_values_iter hT F.entry_dict_values_iter ?_ (F.args_dict_values_iter_1 _))
 unfold Builtin.«dict_values.__iter__»
 refine wpAny_bind (wpAny_pure ?_)
 refine wpAny_bind ?_
 unfold Builtin.Dict_items.dictOf
 refine wpAny_bind (wpAny_field hv rfl (x:=.ref d) rfl (wpAny_pure ?_))
 refine wpAny_bind ?_
 unfold Builtin.Dict_items.newIterator
 refine wpAny_bind (wpAny_dictEntries cZ bT ?_)
 refine wpAny_bind (wpAny_dictEpoch cZ bT ?_)
 have dJ:Builtin.Dict_items.ownsTuple "dict_valueiterator"=false:=by decide
 simp only [dJ,Bool.false_eq_true,if_false]
 exact wpAny_newObj_type (wpAny_pure ⟨_,rfl,"dict_valueiterator",_,⟨_,Heap.get?_push_size _ rfl,rfl⟩,F.slot_dict_valueiterator_next.lookup,hQ⟩)
theorem vD {v:Nat}{L:KV}{Q:Value->Shared->Prop}(hh:A.handled=none) (hv:s.heap.get? v=some ⟨.type "dict_values",none,.fields #[.ref d],#[]⟩) (cZ:s.heap.get? d=some od) (bT:od.data=.dict es ep) (hT:Tells es L) (bx:0 < L.length)
  (h:∀ r t h' tk,(∃ x∈L,x.2=r)->(∀ x∈L,x.2<=r)->(∀ b o,s.heap.get? b=some o->h'.get? b=some o)->Q (.int r t) {s with heap:=h',toks:=tk}):wpAny (model prog w) A (call (.builtin "max") [.ref v]) Q X s:=by
 have vg:=Heap.lt_size cZ
 have at_:∀ (i:Nat) (v:Value),(∃ e,es[i]?=some e/\v=e.val)->∃ t,v=Value.int ((L.map (·.2)).getD i 0) t:=by
  rintro i v ⟨e,he,rfl⟩
  have hi:i < L.length:=by rw [<- hT.size];exact (Array.getElem?_eq_some_iff.mp he).1
  obtain ⟨t,u,hu⟩:=hT.at (List.getElem?_eq_getElem hi)
  rw [he] at hu
  cases hu
  refine ⟨u,?_⟩
  rw [List.getD_eq_getElem?_getD,List.getElem?_map,List.getElem?_eq_getElem hi]
  rfl
 refine call_max_walk (sK hv cZ bT ⟨s.heap.objs.size,[s.heap.objs.size,d],[s.heap.objs.size],es.size,_,_,_,rfl,sJ hh (Nat.ne_of_lt vg) bT,⟨Heap.get?_push_size _ rfl,Heap.get?_push_of_some _ cZ⟩,fun b hb=>?_,by rw [hT.size];exact bx,
  CmpOf.ints_gt (fun i=>(L.map (·.2)).getD i 0) at_,fun v h' tk hP hk=>?_⟩)
 ·show b < (s.heap.push _).objs.size
  rw [Heap.size_push]
  rcases List.mem_cons.mp hb with rfl | hb
  ·exact Nat.lt_succ_self _
  ·rcases List.mem_cons.mp hb with rfl | hb
   ·exact Nat.lt_succ_of_lt vg
   ·cases hb
 ·obtain ⟨t,rfl⟩:=at_ _ _ hP
  obtain ⟨h1,h2⟩:=argBest_gt (fun i=>(L.map (·.2)).getD i 0) (es.size - 1)
  have ax:=hT.size
  have gd:∀ j (hj:j < L.length),(L.map (·.2)).getD j 0=L[j].2:=fun j hj=>by
   rw [List.getD_eq_getElem?_getD,List.getElem?_map,List.getElem?_eq_getElem hj];rfl
  refine h _ t h' tk ⟨_,List.getElem_mem (show argBest (fun i j=>decide ((L.map (·.2)).getD i 0>(L.map (·.2)).getD j 0)) (es.size - 1) < L.length by lia),(gd _ _).symm⟩ (fun x hx=>?_) fun b o e=>?_
  ·obtain ⟨j,hj,rfl⟩:=List.getElem_of_mem hx
   rw [<- gd j hj]
   exact h2 j (by lia)
  ·refine hk b o (fun hm=>?_) (Heap.get?_push_of_some _ e)
   rcases List.mem_cons.mp hm with e1 | hm
   ·exact absurd (e1▸Heap.lt_size e) (Nat.lt_irrefl _)
   ·cases hm
end
section
variable {E:En}{d:Drawn}{os:OsState}
noncomputable def zo (vi di v a:Nat) (od:Obj) (es:Array DictEntry) (ep:Nat) (bT:od.data=.dict es ep) {L:KV}(hT:Tells es L) (r:Int) (dK:∃ x∈L,x.2=r) (ln:∀ x∈L,x.2<=r):ay E d os:=
 ay.leaf yG ⟨0,0,0⟩ (fun q=>(mi q.code,Y q.m vi,Y q.m di,qA q)) (some (.builtin "max",[.ref v]),some (v,⟨.type "dict_values",none,.fields #[.ref (a+1109)],#[]⟩),some (a+1109,od),none,none,none,true) (fun x _=>.int r x.t) (fun _ q=>q.m) (fun x _=>x.j+1109) (fun x _=>x.tk) (fun _=>True) (by
  intro V U q Q h g e' hc hg dM kk
  obtain ⟨e1,e'⟩:=Prod.ext_iff.mp e'
  obtain ⟨e2,e'⟩:=Prod.ext_iff.mp e'
  obtain ⟨e3,e4⟩:=Prod.ext_iff.mp e'
  dsimp only at e1 e2 e3 e4
  obtain ⟨f',pos,e5,e6,e7⟩:=kc e1
  obtain ⟨c1,l',qB⟩:=mj e4
  rw [hc.trans e5] at qB
  obtain ⟨x,rfl,r6⟩:∃ x,pos=[x]/\a9 x=.ref v:=by
   rcases pos with _ | ⟨x,_ | ⟨y,pos⟩⟩
   ·cases e7
   ·injection e7 with e7;exact ⟨x,rfl,e7⟩
   ·injection e7 with _ e7;cases e7
  obtain rfl:=bw r6
  have hf:f'=.builtin "max":=by
   cases f'<;>first | exact e6 | cases e6
  subst hf
  refine jm ?_
  refine jn qB ?_ rfl
  obtain ⟨j,hj⟩:=bY (i:=di) dM e3
  have bx:0 < L.length:=by obtain ⟨x,hx,_⟩:=dK;exact List.length_pos_of_mem hx
  refine vD rfl (dM.own _ _ _ e2) (dM.own _ _ _ e3) bT hT bx fun r' t h' tk JA fw hk=>?_
  have er:r'=r:=by
   obtain ⟨x,hx,ex⟩:=dK
   obtain ⟨y,hy,ey⟩:=JA
   have:=fw x hx
   have:=ln y hy
   lia
  subst er
  intro hs
  have hn:h'.objs.size=(h'.objs.size - 1109)+1109:=by have:=dM.size;have:h.objs.size<=h'.objs.size:=hs;lia
  exact kk ⟨t,h'.objs.size - 1109,tk⟩ trivial h' g hg (dM.grow hn (by rw [<- hn,<- dM.size];exact hs) hk))
end
structure cX (L:KV) where
 k0:Int
 c0:Int
 k1:Int
 c1:Int
 rest:KV
 hp:((k0,c0)::(k1,c1)::rest).Perm L
 hd:gY ((k0,c0)::(k1,c1)::rest)
 out:Array Value
 a0:Nat
 a1:Nat
 t0:Nat
 u0:Nat
 t1:Nat
 u1:Nat
 h0:out[0]?=some (.ref a0)
 h1:out[1]?=some (.ref a1)
 hz:out.size=L.length
 D:Nat
 e:Nat
 j:Nat
 tk:Nat
theorem t5 {L:KV}(h:2<=L.length):Nonempty (cX L):=by
 obtain ⟨L',hp,hd⟩:=qP L
 have hl:=hp.length_eq
 match L',hl with
 | (k0,c0)::(k1,c1)::rest,hl=>
  refine ⟨⟨k0,c0,k1,c1,rest,hp,hd,(Value.ref 0::Value.ref 0::rest.map fun _=>Value.ref 0).toArray,0,0,0,0,0,0,rfl,rfl,?_,0,0,0,0⟩⟩
  simp at hl ⊢;lia
 | [_],hl=>simp at hl;lia
 | [],hl=>simp at hl;lia
noncomputable def cX.df {L:KV}(h:2<=L.length):cX L:=Classical.choice (t5 h)
section
variable {d:Drawn}{os:OsState}{w:World}{b1 b2:Bool}
noncomputable def t6 (w:World) (b1 b2:Bool) (a da ep:Nat) (is:List Nat) (nd:is.Nodup) (hl:2=is.length) {es:Array DictEntry}{L:KV}(hL:Tells es L) (hn:L.length < 64) (h2:2<=L.length) (hV:(L.map (·.1)).Nodup):ay (E2 (W2 w b1 b2)) d os:=
 ay.sub (cX L) (cX.df h2) (GL a) (D1 false) is [(da+1109,aA),(a+1109,cnt (da+1109) es ep)] nd hl (fun x=>.ret (.ref (x.D+1109)))
  (fun x=>[(da+1109,aA),(a+1109,cnt (da+1109) es ep),(x.D+1109,ad x.out x.e),(x.a0,bb (.int x.k0 x.t0) (.int x.c0 x.u0)),(x.a1,bb (.int x.k1 x.t1) (.int x.c1 x.u1))]) (fun x=>x.j+1109) (fun x=>x.tk) (fun _=>True) (fun x=>by rw [<- hl];rfl) (by
  intro Γ h g p n tk Q aF hc hg hr k
  refine yV aF hc fun f2 g2 f3 f4 p2 p3 p4 p5=>?_
  obtain ⟨j,rfl⟩:=bY (i:=0) hr rfl
  refine bc hg hr ?_
  refine yU hL hn p (hl▸Nat.le_refl _) fun x _ p2 BC g2 ag ac=>?_
  have aV:=ac.init (by rw [<- hl];exact Nat.le_succ 2)
  have hP:=x.hP
  have G8:2<=x.L'.length:=by rw [x.hp.length_eq];exact h2
  have Ey:=x.hp
  have bT:=x.hd
  have ax:=hP.1
  generalize JB:x.L'=L' at hP G8 Ey bT ax
  match L',G8 with
  | (k0,c0)::(k1,c1)::rest,_=>
   obtain ⟨a0,t0,u0,e0,m0⟩:=hP.2 0 _ rfl
   obtain ⟨a1,t1,u1,e1,m1⟩:=hP.2 1 _ rfl
   obtain ⟨o0,f0⟩:=ac.tail m0
   obtain ⟨o1,f1⟩:=ac.tail m1
   have G9:k0≠k1:=by
    have:=((Ey.map (·.1)).nodup_iff).mpr hV
    rw [List.map_cons,List.map_cons,List.nodup_cons] at this
    exact fun e=>this.1 (e▸List.mem_cons_self ..)
   have Ha:a0≠a1:=fun e=>by
    subst e
    rw [o0] at o1
    have o1:=Option.some.inj o1
    have:(Value.int k0 t0)=Value.int k1 t1:=by
     have:=congrArg (fun o:Obj=>match o.data with | .seq xs _=>xs.getD 0 .none | _=>.none) o1
     exact this
    injection this with this
    exact G9 this
   have fr:∀ {b:Nat}{v u:Value},(b,bb v u)∈x.tl->h.objs.size<=b:=fun {b v u} hm=>by
    obtain ⟨i,ei⟩:=nJ hm
    refine ac.fresh (3+i) b (bb v u) (by rw [<- hl];lia) ?_
    rw [eW,if_neg (by show ¬ 3+i < 3;lia)]
    have:3+i - ah [(da+1109,aA),(a+1109,cnt (da+1109) es ep),(x.D+1109,ad x.out x.e)]=i:=by show 3+i - 3=i;lia
    rw [show 3+i - ah _=i from this]
    exact ei
   have nt:jq [(da+1109,aA),(a+1109,cnt (da+1109) es ep),(x.D+1109,ad x.out x.e)]:=⟨qK,y8 _ _ _,dF _ _,trivial⟩
   have ne:∀ {b:Nat}{v u:Value},BC.get? b=some (bb v u)->∀ i o,Y [(da+1109,aA),(a+1109,cnt (da+1109) es ep),(x.D+1109,ad x.out x.e)] i≠some (b,o):=by
    intro b v u hb i o e
    have:=aV.own i b o e
    rw [hb] at this
    have z:=nt.at i _ e
    cases this
    cases z
   have r4:=aV.know o0 (fr m0) (ne o0) (hr.lowT a0 (by rw [<- hr.size];exact fr m0))
   have r5:=r4.know o1 (fr m1) (fun i o e=>by
    rw [av] at e
    split at e
    ·exact Ha (congrArg Prod.fst (Option.some.inj e))
    ·exact ne o1 i o e) (hr.lowT a1 (by rw [<- hr.size];exact fr m1))
   exact k ⟨k0,c0,k1,c1,rest,Ey,bT,x.out,a0,a1,t0,u0,t1,u1,e0,e1,by rw [ax,<- JB];exact x.hp.length_eq,x.D,x.e,x.j,x.tk⟩ trivial BC g2 ag r5)
end
theorem Ez {d:Drawn}{os:OsState}{w:World}{b1 b2:Bool}{j tk:Nat}{t e t0 t1:Nat}{k0 k1:Int}{f1:WL}{f2 f3:FN}{p1 p2 p3 p4:Pos}(h0:PySem.IntKeys #[]) (h1:∀ u,PySem.IntKeys #[⟨hashInt k0,.int k0 t0,.int 1 u⟩]) (z0:(#[]:Array DictEntry).size<=sizeLine) (z1:∀ u,(#[⟨hashInt k0,.int k0 t0,.int 1 u⟩]:Array DictEntry).size<=sizeLine) (g0:findBy Value.isInt #[] k0=none) (g1:∀ u,findBy Value.isInt #[⟨hashInt k0,.int k0 t0,.int 1 u⟩] k1=none):
  Qw w b1 b2 d os fun W=>⟨E2 W,1,⟨(.call (.ref 1093) ⟨[.ref (t+1109)],[]⟩),none,none,[(wl f1,p1),(fn f2,p2),(fn f3,p3),(CC,p4)],none⟩,den (.call (.ref 1093) ⟨[.ref (t+1109)],[]⟩),[(t+1109,ad #[.int k0 t0,.int k1 t1] e)],j+1109,tk,.u (l2 2 (j+1110) (cnt (j+1109) #[] 0) #[] 0 rfl h0 k0 (.int 0 0) none g0)<| .u (iq 2 (j+1110) (cnt (j+1109) #[] 0) #[] 0 rfl h0 z0 (bH _ _ _ _) k0 (.int (0+1) 0))<| .u (l2 2 (j+1110) (cnt (j+1109) #[⟨hashInt k0,.int k0 t0,.int 1 (tk+28)⟩] 1) #[⟨hashInt k0,.int k0 t0,.int 1 (tk+28)⟩] 1 rfl (h1 _) k1 (.int 0 0) none (g1 _))<| .u (iq 2 (j+1110) (cnt (j+1109) #[⟨hashInt k0,.int k0 t0,.int 1 (tk+28)⟩] 1) #[⟨hashInt k0,.int k0 t0,.int 1 (tk+28)⟩] 1 rfl (h1 _) (z1 _) (bH _ _ _ _) k1 (.int (0+1) 0))<| .e (.e (.done (.ret (.ref (j+1110)))) [(t+1109,(ad #[(.int k0 t0),(.int k1 t1)] e)),(j+1109,aA),(j+1110,cnt (j+1109) (eu #[⟨(PySem.hashInt k0),(.int k0 t0),(.int 1 (tk+28))⟩] k1 (.int k1 t1) (.int 1 (tk+34))) ((ev #[{hash:=hashInt k0,key:=Value.int k0 t0,val:=Value.int 1 (tk+28)}] 1 k1)))] (j+1127) (tk+38))⟩:=ee 725 (Hx 0x1100330310f010f0ff0ff0ff0ff11f11f111f11f011f011f011f010110ff0ff0ff030020330003003000000030ff000ff0ff0ff0ff0000bb00000dd00000000000e00ee0000d000000d000d00dddd0000cc00000000000000000000000000000000cc1010010101ccc100c0000cccc00000000000010000b00b20bbbbbb00008008944494455000203300000030030000000350330707030000666060666666660330060660000005000002055555500000000303000000000000000000000) [(Hx 0x110300003030ff0ff00),(Hx 0x1100330310f010f0ff0ff0ff0ff11f11f111f11f011f011f0),(Hx 0x110300003030ff0ff00),(Hx 0x1a0a0a0aab013f11f11f111f11f011f011f0)] [1,2] (by kernel_rfl)
structure JC (F:KV) where
 es:Array DictEntry
 ep:Nat
 hT:Tells es F
 tk:Nat
theorem Ca {M:Model}{Γ:Ctx}{c:Code}{Q:Result->Shared->Prop}{p:Pos}{s:Shared}(aF:Γ.code=c) (hc:dW Γ=(none,none,none,[6,1,1],some CC)) (k:∀ f1 f2 f3 p1 p2 p3 p4,wpCode M ⟨c,none,none,[(wl f1,p1),(fn f2,p2),(fn f3,p3),(CC,p4)],none⟩ Q p s):wpCode M Γ Q p s:=
 lc aF hc fun l h=>l5 (D:=fun l=>wpCode M ⟨c,none,none,l,none⟩ Q p s) h fun f1 p1 l h=>gL (D:=fun l=>wpCode M ⟨c,none,none,(wl f1,p1)::l,none⟩ Q p s) h fun f2 f3 p2 p3 p4=>k f1 f2 f3 p1 p2 p3 p4
section
variable {d:Drawn}{os:OsState}{w:World}{b1 b2:Bool}
noncomputable def Hb (j0 t e t0 t1 i:Nat) (k0 k1:Int) (bx:k0≠k1):ay (Ad w b1 b2) d os where
 X:=JC [(k0,1),(k1,1)]
 x0:=⟨_,0,dR _,0⟩
 L:=_
 look q:=(q.code,[i].map (Y q.m),dW q.Γ,q.n)
 v:=(.call (.ref 1093) ⟨[.ref (t+1109)],[]⟩,([(t+1109,ad #[.int k0 t0,.int k1 t1] e)]:Mm).map some,(none,none,none,[6,1,1],some CC),j0+1109)
 ans x q:=⟨.pure (.done (.ret (.ref (j0+1110)))),q.p,eC q.m [i] [(t+1109,ad #[.int k0 t0,.int k1 t1] e),Ab j0,(j0+1110,Ac j0 x.es x.ep)],j0+1127,x.tk,[]⟩
 says _:=True
 holds:=by
  intro V U hs q Q h g e hc hg hr kk
  obtain ⟨e1,e⟩:=Prod.ext_iff.mp e
  obtain ⟨e2,e⟩:=Prod.ext_iff.mp e
  obtain ⟨e3,e4⟩:=Prod.ext_iff.mp e
  dsimp only at e1 e2 e3 e4
  have es:=eD e2
  have f8:ah (aZ q.m [i])=1:=by rw [es];rfl
  have dK:=hr.sub [i] (aE f8) (by simp)
  rw [es,e4] at dK
  refine Ca (hc.trans e1) e3 fun f1 f2 f3 p1 p2 p3 p4=>?_
  refine bc (E:=E2 (W2 w b1 b2)) hg dK ?_
  have T1:∀ u,Tells #[⟨hashInt k0,.int k0 t0,.int 1 u⟩] [(k0,1)]:=fun u=>rfl
  have hf:∀ u,findBy Value.isInt #[⟨hashInt k0,.int k0 t0,.int 1 u⟩] k1=none:=fun u=>by
   rcases (T1 u).get k1 with ⟨c,t,e5,_⟩ | ⟨_,e5⟩
   ·have e5:(if k0=k1 then some 1 else none)=some c:=e5
    rw [if_neg bx] at e5
    cases e5
   ·exact e5
  refine Ez jf.keys (fun u=>(T1 u).keys) (Nat.zero_le _) (fun u=>by show 1<=sizeLine;exact cG (by decide)) rfl hf q.p (Nat.le_refl _) fun p' h' g' bn bS=>?_
  have JD:Tells (eu #[⟨hashInt k0,.int k0 t0,.int 1 (q.tk+28)⟩] k1 (.int k1 t1) (.int 1 (q.tk+34))) [(k0,1),(k1,1)]:=by
   have:=(T1 (q.tk+28)).put k1 1 t1 (q.tk+34)
   have e5:putL [(k0,1)] k1 1=[(k0,1),(k1,1)]:=by
    show (if k0=k1 then _ else (k0,1)::putL [] k1 1)=_
    rw [if_neg bx];rfl
   rw [e5] at this
   exact this
  exact kk ⟨_,ev #[⟨hashInt k0,.int k0 t0,.int 1 (q.tk+28)⟩] 1 k1,JD,q.tk+38⟩ trivial h' g' bn (hr.join' [i] (by simp) f8 bS (by rw [es];rfl))
end
theorem cX.mx1 {L:KV}(x:cX L):∃ y∈L,y.2=x.c0:=⟨_,x.hp.mem_iff.mp (List.mem_cons_self ..),rfl⟩
theorem cX.mx2 {L:KV}(x:cX L):∀ y∈L,y.2<=x.c0:=fun y hy=>by
 rcases List.mem_cons.mp (x.hp.mem_iff.mpr hy) with rfl | h
 ·exact Int.le_refl _
 ·exact (List.pairwise_cons.mp x.hd).1 y h
theorem cX.ne {L:KV}(x:cX L) (hV:(L.map (·.1)).Nodup):x.k0≠x.k1:=by
 have:=((x.hp.map (·.1)).nodup_iff).mpr hV
 rw [List.map_cons,List.map_cons,List.nodup_cons] at this
 exact fun e=>this.1 (e▸List.mem_cons_self ..)
theorem cX.two {L:KV}(x:cX L):slicePick x.out none (some 2) none=#[.ref x.a0,.ref x.a1]:=by
 have hz:2<=x.out.size:=(Array.getElem?_eq_some_iff.mp x.h1).1
 rw [show (some (2:Int))=some ((2:Nat):Int) from rfl,slicePick_upto x.out 2 hz]
 have h0:=x.h0
 have h1:=x.h1
 rw [<- Array.getElem?_toList] at h0 h1
 match e:x.out.toList,h0,h1 with
 | y::z::l,h0,h1=>cases h0;cases h1;rfl
 | [y],h0,h1=>cases h1
 | [],h0,h1=>cases h0
theorem cX.size {L:KV}(x:cX L) (hn:L.length < 64):x.out.size<=1000:=by rw [x.hz];lia
theorem kT {L:KV}(h:(L.map (·.1)).Nodup):(fZ L).Nodup:=h.sublist (List.filter_sublist.map _)
theorem nQ {L:KV}:∀ k∈fZ L,k∈L.map (·.1):=fun k h=>by
 obtain ⟨x,hx,rfl⟩:=List.mem_map.mp h
 exact List.mem_map.mpr ⟨x,(List.mem_filter.mp hx).1,rfl⟩
noncomputable def cU (r F:KV):KV:=F.foldl fY r
noncomputable def cL (r:KV):KV:=(fZ r).foldl fA r
theorem mJ {l:KV}{k c:Int}(h:k∈l.map (·.1)):(putL l k c).map (·.1)=l.map (·.1):=by
 induction l with
 | nil=>cases h
 | cons x l ih=>
  show (if x.1=k then (x.1,c)::l else x::putL l k c).map (·.1)=_
  by_cases e:x.1=k
  ·rw [if_pos e];rfl
  ·rw [if_neg e,List.map_cons,List.map_cons]
   rw [List.map_cons] at h
   rcases List.mem_cons.mp h with z | z
   ·exact absurd z.symm e
   ·rw [ih z]
theorem cX.keys {L:KV}(x:cX L):(cU L [(x.k0,1),(x.k1,1)]).map (·.1)=L.map (·.1):=by
 have m0:x.k0∈L.map (·.1):=(x.hp.map (·.1)).mem_iff.mp (by simp)
 have m1:x.k1∈L.map (·.1):=(x.hp.map (·.1)).mem_iff.mp (by simp)
 have e0:(fY L (x.k0,1)).map (·.1)=L.map (·.1):=mJ m0
 show (fY (fY L (x.k0,1)) (x.k1,1)).map (·.1)=_
 exact (mJ (by rw [e0];exact m1)).trans e0
theorem cX.klen {L:KV}(x:cX L):(cU L [(x.k0,1),(x.k1,1)]).length=L.length:=by
 have:=congrArg List.length x.keys
 rwa [List.length_map,List.length_map] at this
theorem cX.kle {L:KV}(x:cX L) (hn:L.length < 64):(cU L [(x.k0,1),(x.k1,1)]).length<=1000:=by rw [x.klen];lia
theorem cX.kpos {L:KV}(x:cX L) (h:2<=L.length):0 < (cU L [(x.k0,1),(x.k1,1)]).length:=by rw [x.klen];lia
theorem cX.knd {L:KV}(x:cX L) (h:(L.map (·.1)).Nodup):((cU L [(x.k0,1),(x.k1,1)]).map (·.1)).Nodup:=by rw [x.keys];exact h
noncomputable def Hc:Stmt->Expr | .While t _ _ _=>t | _=>default
noncomputable def Cb:Stmt->List Stmt | .While _ b _ _=>b | _=>[]
noncomputable def JE:Stmt->List Stmt | .While _ _ e _=>e | _=>[]
noncomputable def g6 (s:Stmt) (env:Env):Code:=.whileLoop (Hc s) (Cb s) (JE s) env
noncomputable def EA (v:Value):Sem Fin:=R.bindR (Fast.tw9201129301070521445 v (Str.ofString "__len__") [] []) fun r=>match r with
 | some r=>.pure (.done (.ret r))
 | none=>.unsupported "no __len__"
theorem Hd {d:Drawn}{os:OsState}{w:World}{b1 b2:Bool}{j tk:Nat}{Γ:Ctx}{a da ep n:Nat}{es:Array DictEntry}(dx:(a+1109==sysModules)=false) (hn:es.size=n):
  Qw w b1 b2 d os fun W=>⟨E2 W,2,Γ,EA (Aa a),[Ab da,Az a da es ep],j+1109,tk,.u (FW 1 (a+1109) (Ac da es ep) es ep dx rfl (bH _ _ _ _) n hn)<| .e (.e (.done (.ret (.int (Int.ofNat n) tk))) [AA da,AO a da es ep] (j+1109) (tk+1))⟩:=ee 70 [2,0,0,0,0,2,0,1] [[]] [] (by kernel_rfl)
theorem Cc (v:Value):EA v=callSpecial? v (Str.ofString "__len__") []>>=fun r=>(match r with
 | some r=>(.pure (.done (.ret r)):Sem Fin)
 | none=>.unsupported "no __len__"):=by
 unfold EA
 rw [<- R.bindR_eq,<- Fast.te9201129301070521445]
 rfl
noncomputable def He (Q:Value->Pos->Shared->Prop):Result->Shared->Prop
 | .ok (.ret v),s=>∀ p,Q v p s
 | _,_=>False
theorem qR:entryFor table "len"=some Builtin.«len»:=entryFor_of_fast (by kernel_rfl)
section
variable {d:Drawn}{os:OsState}{w:World}{b1 b2:Bool}
noncomputable def oN (a da ep:Nat) (es:Array DictEntry) (n:Nat) (hn:es.size=n) (dk:n<=1000) (dx:(a+1109==sysModules)=false) (is:List Nat) (nd:is.Nodup) (hl:2=is.length):ay (Ad w b1 b2) d os where
 X:=Unit
 x0:=()
 L:=_
 look q:=(bG q.code,is.map (Y q.m))
 v:=(some ("len",[.ref (a+1109)]),([Ab da,Az a da es ep]:Mm).map some)
 ans _ q:=⟨.pure (.done (.ret (.int (Int.ofNat n) (q.tk+1)))),q.p,q.m,q.n,q.tk+2,[]⟩
 says _:=True
 holds:=by
  intro V U hs q Q h g e hc hg hr kk
  obtain ⟨e1,e2⟩:=Prod.ext_iff.mp e
  dsimp only at e1 e2
  have gy:=eD e2
  have f8:ah (aZ q.m is)=is.length:=by rw [gy];exact hl
  have dK:=hr.sub is (aE f8) nd
  rw [gy] at dK
  obtain ⟨j,hj⟩:=bY (i:=0) dK rfl
  refine am (hc.trans (gM e1)) qR ?_
  rw [hj] at dK
  have z:=Hd (Γ:=q.Γ) (tk:=q.tk) dx hn (V:=h) (U:=is.length) (R:=He fun v p s=>some v=some (.int (Int.ofNat n) q.tk)/\∃ h' g',s=⟨h',g',d,q.tk+1,os⟩/\AllBare g'/\Rep (E2 (W2 w b1 b2)) h is.length [(da+1109,aA),(a+1109,cnt (da+1109) es ep)] (j+1109) h') q.p (hl▸Nat.le_refl _) fun p' h' g' bn bS p=>⟨rfl,h',g',rfl,bn,bS⟩
  have key:wp (Mo (E2 (W2 w b1 b2))) q.Γ (callSpecial? (.ref (a+1109)) (Str.ofString "__len__") []) (fun o p s=>o=some (.int (Int.ofNat n) q.tk)/\∃ h' g',s=⟨h',g',d,q.tk+1,os⟩/\AllBare g'/\Rep (E2 (W2 w b1 b2)) h is.length [(da+1109,aA),(a+1109,cnt (da+1109) es ep)] (j+1109) h') (fun _ _ _=>False) q.p ⟨h,g,d,q.tk,os⟩:=by
   have y:=z h g hg dK
   rw [cO,Cc,Sem.wp_bind'] at y
   refine Sem.wp_mono _ _ _ (fun o p s h=>?_) (fun e p s h=>h.elim) _ _ y
   cases o with
   | none=>exact h.elim
   | some v=>exact h p
  unfold Builtin.«len»
  show wp _ _ (oneArg "len" _>>=_) _ _ _ _
  rw [Sem.wp_bind']
  show wp _ _ (pure _) _ _ _ _
  rw [Sem.wp_pure',Sem.wp_bind']
  refine Sem.wp_mono _ _ _ (fun o p s h=>?_) (fun e p s h=>h.elim) _ _ key
  obtain ⟨rfl,h',g',rfl,bn,bS⟩:=h
  have keep:=dK.keepAll bS
  have fin:=kk () trivial h' g' bn (hr.grow (bS.size.trans hj.symm) (Nat.le_refl _) keep)
  refine Sem.wp_mono _ _ _ (fun f p' s' h'=>?_) (fun e p' s' h'=>h'.elim) _ _ (aR (Q:=fun f s'=>∃ v,f=.done (.ret v)/\Q (.ok (.ret v)) s') (E:=fun _ _=>False) ?_ p)
  ·obtain ⟨v,rfl,h'⟩:=h'
   exact h'
  refine wpAny_bind (wpAny_holding (wpAny_pure ?_))
  refine wpAny_bind (wpAny_letGo ?_)
  show wpAny _ _ (if (Int.ofNat n) < 0 then _ else _) _ _ _
  rw [if_neg (by simp)]
  show wpAny _ _ (if (Int.ofNat n)≥2 ^ 63 then _ else _) _ _ _
  rw [if_neg (by simp;lia)]
  exact wpAny_bind (wpAny_mkInt (wpAny_pure ⟨_,rfl,fin⟩))
end
section
variable {L:KV}{a da e0 ep j k0 k1 k2 l se tk:Nat}{b1 b2:Bool}{d:Drawn}{es:Array DictEntry}{f1 f2:FN}{ls:Array Value}{p1 p2 p3:Pos}{w:World}
noncomputable def a7:Str:=sZ 0x6b6375727473
noncomputable def km:Str:=sZ 0x6f7774
noncomputable abbrev A5:=fun a b c d=>envOf (W2 a b c) 1107 (d+1109)
noncomputable abbrev AN:=fun a b c=>au (W2 a b c) 1107 1
theorem Hf {os:OsState}{st:Nat}(hL:Tells es L) (hn:L.length < 64) (h2:2<=L.length) (hV:(L.map (·.1)).Nodup) (dx:(a+1109==sysModules)=false) (hs:ls.size<=900):
  Qb b1 b2 d os fun b1 b2=>⟨Ad w b1 b2,4,⟨(g6 (AN w b1 b2) (A5 w b1 b2 l)),none,none,[(fn f1,p1),(fn f2,p2),(CC,p3)],none⟩,den (g6 (AN w b1 b2) (A5 w b1 b2 l)),[(l+1109,aL [At w b1 b2 k0 a,A0 w b1 b2 a7 k1 st] e0),Ab da,AO a da es ep,Ak st ls se],j+1109,tk,.u (oN a da ep es L.length hL.size (by lia) dx [1,2] (by decide) rfl)<| .u (fO (Int.ofNat L.length) 1 true (decide_eq_true (Int.ofNat_lt.mpr h2)))<| .c (t6 w b1 b2 a da ep [1,2] (by decide) rfl hL hn h2 hV) fun x3=>.u (qz 4 (x3.D+1109) x3.e x3.out 0 (.ref x3.a0) (by decide) (by decide) x3.h0)<| .c (zo 7 2 (x3.j+1109) a (Ac da es ep) es ep rfl hL x3.c0 x3.mx1 x3.mx2) fun x5=>.u (i0 "int.__eq__" F.entry_int_eq (fun a b=>a==b) (fun _ _ _ _=>rfl) x3.c0 x3.c0 true (by simp))<| .c (t6 w b1 b2 a da ep [1,2] (by decide) rfl hL hn h2 hV) fun x7=>.u (nq 8 11 (x7.D+1109) (x7.j+1109) x7.e x7.out .none (.int 2 x7.tk) none (some 2) #[.ref x7.a0,.ref x7.a1] .none (.int _ _) x7.two (x7.size hn))<| .c (yW 3 14 (st+1109) (x7.j+1112) se 2 ls #[.int x7.k0 x7.t0,.int x7.k1 x7.t1] (by show _+2<=_;lia)) fun x9=>.c (Hb (x7.j+7) (x7.j+3) 2 x7.t0 x7.t1 14 x7.k0 x7.k1 (x7.ne hV)) fun kn=>.c (zh w b1 b2 (x7.j+25) (x7.j+27) a (x7.j+8) (da+1109) (x7.j+1116) ep kn.ep (kn.tk) (kn.tk+1) 2 es kn.es L _ hL kn.hT (cG (by show _+2<=_;lia)) [2,19,20,22] (by decide) rfl) fun fx=>.c (G1 fx.j (fx.j+2) (fx.j+3) (fx.j+4) a (da+1109) fx.rp (L:=cU L [(x7.k0,1),(x7.k1,1)]) fx.hT (x7.kle hn) (x7.kpos h2) [2,27,25,26] (by decide) rfl) fun mK=>.c (G7 fx.j (mK.j+0) a (da+1109) fx.rp (fx.j+3) mK.xe (fx.tk) mK.tk 2 mK.hI fx.hT (x7.kle hn) (kT (x7.knd hV)) nQ [2,23,26,28] (by decide) rfl) fun kp=>.e (.e (.again (g6 (AN w b1 b2) (A5 w b1 b2 l))) [(l+1109,aL [At w b1 b2 k0 a,A0 w b1 b2 a7 k1 st,Ai w b1 b2 km ((x7.21)+5) (.ref ((x7.j)+1112))] (e0+1)),Ab da,(a+1109,Ac da (Ex.rs kp) (kp.rp)),(st+1109,⟨(.type "list"),none,.seq (ls++#[Value.int x7.k0 x7.t0,Value.int x7.k1 x7.t1]) x9,#[]⟩)] ((kp.j)+1109) ((kp.9)+1))⟩:=bE 578 [0,0,1,0,1] [[0,1],(Hx 0x1102300003000300031),[5,5,5,0,5,1],(Hx 0x11033003023000300030003100060606660),[0,1],(Hx 0x1102300003000300031),[9,9,9,0,9,1],(Hx 0x114014444110f10f10f1112feedee0e0e00ff0ff0ff00ff0b0b0bbb10f10f10feedee0e0e00ff0ff0ff00ff0a0a0aaa10f10f10feedee0e0e0e0e0ee0e0d0dd0),[1,0,1,0,0,1],(Hx 0x1117f14f14f16f016f016f16f014f14f0014f013f14f00014f00014f00014f15f0015f15f15f15f0000000300003),(Hx 0x111af01af01af1af01af3319f019f019f19f03300302300030003000318f0018f18f000023000030003000315f),(Hx 0x111df01bf01bf1bf18f1cf1cf1cf1cf1cf1cf18f18f),[24,1,1]] [] 578 [0,0,1,0,1] [[0,1],(Hx 0x1102300003000300031),[5,5,5,0,5,1],(Hx 0x11033003023000300030003100060606660),[0,1],(Hx 0x1102300003000300031),[9,9,9,0,9,1],(Hx 0x114014444110f10f10f1112feedee0e0e00ff0ff0ff00ff0b0b0bbb10f10f10feedee0e0e00ff0ff0ff00ff0a0a0aaa10f10f10feedee0e0e00e0d0dd0),[1,0,1,0,0,1],(Hx 0x1117f14f14f16f016f016f16f014f14f0014f013f14f00014f00014f00014f15f0015f15f15f15f0000000300003),(Hx 0x1101af3319f019f019f19f03300302300030003000318f0018f18f000023000030003000315f),(Hx 0x111df01bf01bf1bf18f1cf1cf1cf1cf1cf1cf18f18f),[24,1,1]] [] (by kernel_rfl)
theorem Hg {os:OsState}{st:Nat}{q2:Value}(hL:Tells es L) (hn:L.length < 64) (h2:2<=L.length) (hV:(L.map (·.1)).Nodup) (dx:(a+1109==sysModules)=false) (hs:ls.size<=900):
  Qb b1 b2 d os fun b1 b2=>⟨Ad w b1 b2,4,⟨(g6 (AN w b1 b2) (A5 w b1 b2 l)),none,none,[(fn f1,p1),(fn f2,p2),(CC,p3)],none⟩,den (g6 (AN w b1 b2) (A5 w b1 b2 l)),[(l+1109,aL [At w b1 b2 k0 a,A0 w b1 b2 a7 k1 st,Ai w b1 b2 km k2 q2] e0),Ab da,AO a da es ep,Ak st ls se],j+1109,tk,.u (oN a da ep es L.length hL.size (by lia) dx [1,2] (by decide) rfl)<| .u (fO (Int.ofNat L.length) 1 true (decide_eq_true (Int.ofNat_lt.mpr h2)))<| .c (t6 w b1 b2 a da ep [1,2] (by decide) rfl hL hn h2 hV) fun x3=>.u (qz 4 (x3.D+1109) x3.e x3.out 0 (.ref x3.a0) (by decide) (by decide) x3.h0)<| .c (zo 7 2 (x3.j+1109) a (Ac da es ep) es ep rfl hL x3.c0 x3.mx1 x3.mx2) fun x5=>.u (i0 "int.__eq__" F.entry_int_eq (fun a b=>a==b) (fun _ _ _ _=>rfl) x3.c0 x3.c0 true (by simp))<| .c (t6 w b1 b2 a da ep [1,2] (by decide) rfl hL hn h2 hV) fun x7=>.u (nq 8 11 (x7.D+1109) (x7.j+1109) x7.e x7.out .none (.int 2 x7.tk) none (some 2) #[.ref x7.a0,.ref x7.a1] .none (.int _ _) x7.two (x7.size hn))<| .c (yW 3 14 (st+1109) (x7.j+1112) se 2 ls #[.int x7.k0 x7.t0,.int x7.k1 x7.t1] (by show _+2<=_;lia)) fun x9=>.c (Hb (x7.j+7) (x7.j+3) 2 x7.t0 x7.t1 14 x7.k0 x7.k1 (x7.ne hV)) fun kn=>.c (zh w b1 b2 (x7.j+25) (x7.j+27) a (x7.j+8) (da+1109) (x7.j+1116) ep kn.ep (kn.tk) (kn.tk+1) 2 es kn.es L _ hL kn.hT (cG (by show _+2<=_;lia)) [2,19,20,22] (by decide) rfl) fun fx=>.c (G1 fx.j (fx.j+2) (fx.j+3) (fx.j+4) a (da+1109) fx.rp (L:=cU L [(x7.k0,1),(x7.k1,1)]) fx.hT (x7.kle hn) (x7.kpos h2) [2,27,25,26] (by decide) rfl) fun mK=>.c (G7 fx.j (mK.j+0) a (da+1109) fx.rp (fx.j+3) mK.xe (fx.tk) mK.tk 2 mK.hI fx.hT (x7.kle hn) (kT (x7.knd hV)) nQ [2,23,26,28] (by decide) rfl) fun kp=>.e (.e (.again (g6 (AN w b1 b2) (A5 w b1 b2 l))) [(l+1109,aL [At w b1 b2 k0 a,A0 w b1 b2 a7 k1 st,Ai w b1 b2 km k2 (.ref ((x7.j)+1112))] e0),Ab da,(a+1109,Ac da (Ex.rs kp) (kp.rp)),(st+1109,⟨(.type "list"),none,.seq (ls++#[Value.int x7.k0 x7.t0,Value.int x7.k1 x7.t1]) x9,#[]⟩)] ((kp.j)+1109) ((kp.9)+1))⟩:=bE 578 [0,0,1,0,1] [[0,1],(Hx 0x1102300003000300031),[5,5,5,0,5,1],(Hx 0x11033003023000300030003100060606660),[0,1],(Hx 0x1102300003000300031),[9,9,9,0,9,1],(Hx 0x114014444110f10f10f1112feedee0e0e00ff0ff0ff00ff0b0b0bbb10f10f10feedee0e0e00ff0ff0ff00ff0a0a0aaa10f10f10feedee0e0e0e0e0ee0e0d0dd0),[1,0,1,0,0,1],(Hx 0x1117f14f14f16f016f016f16f014f14f0014f013f14f00014f00014f00014f15f0015f15f15f15f0000000300003),(Hx 0x111af01af01af1af01af3319f019f019f19f03300302300030003000318f0018f18f000023000030003000315f),(Hx 0x111df01bf01bf1bf18f1cf1cf1cf1cf1cf1cf18f18f),[24,1,1]] [] 578 [0,0,1,0,1] [[0,1],(Hx 0x1102300003000300031),[5,5,5,0,5,1],(Hx 0x11033003023000300030003100060606660),[0,1],(Hx 0x1102300003000300031),[9,9,9,0,9,1],(Hx 0x114014444110f10f10f1112feedee0e0e00ff0ff0ff00ff0b0b0bbb10f10f10feedee0e0e00ff0ff0ff00ff0a0a0aaa10f10f10feedee0e0e00e0d0dd0),[1,0,1,0,0,1],(Hx 0x1117f14f14f16f016f016f16f014f14f0014f013f14f00014f00014f00014f15f0015f15f15f15f0000000300003),(Hx 0x1101af3319f019f019f19f03300302300030003000318f0018f18f000023000030003000315f),(Hx 0x111df01bf01bf1bf18f1cf1cf1cf1cf1cf1cf18f18f),[24,1,1]] [] (by kernel_rfl)
end
noncomputable def aM (r:KV):Int:=(r.map (·.2)).sum
structure Good (r:KV):Prop where
 nd:(r.map (·.1)).Nodup
 pos:∀ x∈r,0 < x.2
noncomputable def i5 (k0 k1:Int) (x:Int×Int):Int×Int:=(x.1,if x.1=k0∨x.1=k1 then x.2 - 1 else x.2)
noncomputable def cu (k:Int) (x:Int×Int):Int×Int:=(x.1,if x.1=k then x.2 - 1 else x.2)
theorem iN {r:KV}(h:(r.map (·.1)).Nodup) {x:Int×Int}(hx:x∈r):ct r x.1=x.2:=by
 induction r with
 | nil=>cases hx
 | cons y r ih=>
  rw [List.map_cons,List.nodup_cons] at h
  unfold ct
  show (if y.1=x.1 then some y.2 else lk r x.1).getD 0=_
  rcases List.mem_cons.mp hx with rfl | hx
  ·rw [if_pos rfl];rfl
  ·rw [if_neg fun (e:y.1=x.1)=>h.1 (e▸List.mem_map_of_mem hx)]
   exact ih h.2 hx
theorem mL {r:KV}{k:Int}(h:k ∉ r.map (·.1)):r.map (cu k)=r:=by
 induction r with
 | nil=>rfl
 | cons y r ih=>
  rw [List.map_cons,List.mem_cons,not_or] at h
  rw [List.map_cons,ih h.2]
  congr 1
  unfold cu
  rw [if_neg fun e=>h.1 e.symm]
theorem gA {r:KV}(h:(r.map (·.1)).Nodup) {k:Int}(hk:k∈r.map (·.1)):putL r k (ct r k - 1)=r.map (cu k):=by
 have EB:∀ (r:KV) (c:Int),(r.map (·.1)).Nodup->(∀ x∈r,x.1=k->x.2 - 1=c)->k∈r.map (·.1)->putL r k c=r.map (cu k):=by
  intro r c
  induction r with
  | nil=>intro _ _ h;cases h
  | cons y r ih=>
   intro h hc hk
   rw [List.map_cons,List.nodup_cons] at h
   show (if y.1=k then (y.1,c)::r else y::putL r k c)=_
   rw [List.map_cons]
   by_cases e:y.1=k
   ·rw [if_pos e,mL (e▸h.1)]
    congr 1
    unfold cu
    rw [if_pos e,hc y (List.mem_cons_self ..) e]
   ·rw [if_neg e]
    rw [List.map_cons,List.mem_cons] at hk
    rw [ih h.2 (fun x hx=>hc x (List.mem_cons_of_mem _ hx)) (hk.resolve_left fun z=>e z.symm)]
    congr 1
    unfold cu
    rw [if_neg e]
 refine EB r _ h (fun x hx e=>?_) hk
 rw [<- e,iN h hx]
theorem c7 (r:KV) (k:Int):(r.map (cu k)).map (·.1)=r.map (·.1):=by rw [List.map_map];rfl
theorem qS {r:KV}(h:(r.map (·.1)).Nodup) {k0 k1:Int}(h0:k0∈r.map (·.1)) (h1:k1∈r.map (·.1)) (bx:k0≠k1):cU r [(k0,1),(k1,1)]=r.map (i5 k0 k1):=by
 show putL (putL r k0 (ct r k0 - 1)) k1 (ct (putL r k0 (ct r k0 - 1)) k1 - 1)=_
 rw [gA h h0,gA (by rw [c7];exact h) (by rw [c7];exact h1),List.map_map]
 refine List.map_congr_left fun x _=>?_
 show cu k1 (cu k0 x)=i5 k0 k1 x
 unfold cu i5
 dsimp only
 congr 1
 by_cases e0:x.1=k0
 ·have e1:¬ x.1=k1:=fun e=>bx (e0.symm.trans e)
  rw [if_neg e1,if_pos e0,if_pos (.inl e0)]
 ·by_cases e1:x.1=k1
  ·rw [if_pos e1,if_neg e0,if_pos (.inr e1)]
  ·rw [if_neg e1,if_neg e0,if_neg (fun z=>z.elim e0 e1)]
theorem oO {r:KV}(h:(r.map (·.1)).Nodup) (k:Int):fA r k=r.filter fun x=>decide (x.1≠k):=by
 induction r with
 | nil=>rfl
 | cons y r ih=>
  rw [List.map_cons,List.nodup_cons] at h
  show (if y.1=k then r else y::fA r k)=_
  by_cases e:y.1=k
  ·rw [if_pos e,List.filter_cons_of_neg (by simp [e])]
   refine (List.filter_eq_self.mpr fun x hx=>?_).symm
   exact decide_eq_true fun z=>h.1 ((e.trans z.symm)▸List.mem_map_of_mem hx)
  ·rw [if_neg e,List.filter_cons_of_pos (by simp [e]),ih h.2]
theorem mM {r:KV}(h:(r.map (·.1)).Nodup) (p:Int×Int->Bool):((r.filter p).map (·.1)).Nodup:=h.sublist (List.filter_sublist.map _)
theorem vE (A:List Int):∀ {r:KV},(r.map (·.1)).Nodup->A.foldl fA r=r.filter fun x=>decide (x.1 ∉ A):=by
 induction A with
 | nil=>intro r _;exact (List.filter_eq_self.mpr fun x _=>by simp).symm
 | cons k A ih=>
  intro r h
  rw [List.foldl_cons,oO h,ih (mM h _),List.filter_filter]
  refine List.filter_congr fun x _=>?_
  simp [not_or,Bool.and_comm]
theorem vF {r:KV}(h:(r.map (·.1)).Nodup):cL r=r.filter fun x=>decide (0 < x.2):=by
 unfold cL
 rw [vE _ h]
 refine List.filter_congr fun x hx=>?_
 rw [decide_eq_decide]
 constructor
 ·intro hn
  refine Int.not_le.mp fun oP=>hn (List.mem_map.mpr ⟨x,List.mem_filter.mpr ⟨hx,?_⟩,rfl⟩)
  simp;lia
 ·intro hp hm
  obtain ⟨y,hy,e⟩:=List.mem_map.mp hm
  obtain ⟨qO,Hh⟩:=List.mem_filter.mp hy
  have e1:=iN h hx
  have e2:=iN h qO
  rw [e,e1] at e2
  rw [<- e2] at Hh
  simp at Hh;lia
theorem gR {r:KV}(h:(r.map (·.1)).Nodup) {k0 k1:Int}(h0:k0∈r.map (·.1)) (h1:k1∈r.map (·.1)) (bx:k0≠k1):cL (cU r [(k0,1),(k1,1)])=(r.map (i5 k0 k1)).filter fun x=>decide (0 < x.2):=by
 rw [qS h h0 h1 bx]
 exact vF (by rw [List.map_map];exact h)
theorem aT (x:Int×Int) (r:KV):aM (x::r)=x.2+aM r:=by unfold aM;rw [List.map_cons,List.sum_cons]
theorem oQ {r:KV}(h:∀ x∈r,0<=x.2):aM (r.filter fun x=>decide (0 < x.2))=aM r:=by
 induction r with
 | nil=>rfl
 | cons x r ih=>
  have ih:=ih fun y hy=>h y (List.mem_cons_of_mem _ hy)
  by_cases e:0 < x.2
  ·rw [List.filter_cons_of_pos (by simpa using e),aT,aT,ih]
  ·rw [List.filter_cons_of_neg (by simpa using e),aT,ih]
   have:=h x (List.mem_cons_self ..)
   lia
theorem jr {r:KV}(h:(r.map (·.1)).Nodup) {k:Int}(hk:k∈r.map (·.1)):aM (r.map (cu k))=aM r - 1:=by
 induction r with
 | nil=>cases hk
 | cons y r ih=>
  rw [List.map_cons,List.nodup_cons] at h
  rw [List.map_cons,aT,aT]
  by_cases e:y.1=k
  ·rw [mL (e▸h.1)]
   unfold cu
   rw [if_pos e]
   lia
  ·rw [List.map_cons,List.mem_cons] at hk
   rw [ih h.2 (hk.resolve_left fun z=>e z.symm)]
   unfold cu
   rw [if_neg e]
   lia
theorem sL {r:KV}(h:(r.map (·.1)).Nodup) {k0 k1:Int}(h0:k0∈r.map (·.1)) (h1:k1∈r.map (·.1)) (bx:k0≠k1):aM (r.map (i5 k0 k1))=aM r - 2:=by
 rw [<- qS h h0 h1 bx]
 show aM (putL (putL r k0 (ct r k0 - 1)) k1 (ct (putL r k0 (ct r k0 - 1)) k1 - 1))=_
 rw [gA h h0,gA (by rw [c7];exact h) (by rw [c7];exact h1),jr (by rw [c7];exact h) (by rw [c7];exact h1),jr h h0]
 lia
theorem Good.strike {r:KV}(h:Good r) {k0 k1:Int}(h0:k0∈r.map (·.1)) (h1:k1∈r.map (·.1)) (bx:k0≠k1):Good (cL (cU r [(k0,1),(k1,1)]))/\aM (cL (cU r [(k0,1),(k1,1)]))=aM r - 2/\(cL (cU r [(k0,1),(k1,1)])).length<=r.length:=by
 rw [gR h.nd h0 h1 bx]
 refine ⟨⟨mM (by rw [List.map_map];exact h.nd) _,fun x hx=>of_decide_eq_true (List.mem_filter.mp hx).2⟩,?_,?_⟩
 ·rw [oQ,sL h.nd h0 h1 bx]
  intro x hx
  obtain ⟨y,hy,rfl⟩:=List.mem_map.mp hx
  have:=h.pos y hy
  unfold i5
  dsimp only
  split<;>lia
 ·refine Nat.le_trans (List.length_filter_le _ _) ?_
  rw [List.length_map]
  exact Nat.le_refl _
theorem Good.sum {r:KV}(h:∀ x∈r,0 < x.2):(r.length:Int)<=aM r:=by
 induction r with
 | nil=>exact Int.le_refl _
 | cons x r ih=>
  have:=ih fun y hy=>h y (List.mem_cons_of_mem _ hy)
  have:=h x (List.mem_cons_self ..)
  rw [aT,List.length_cons]
  lia
section
variable {L:KV}{a da e0 ep j k0 k1 k2 l tk:Nat}{b1 b2:Bool}{d:Drawn}{es:Array DictEntry}{f1 f2:FN}{p1 p2 p3:Pos}{w:World}
theorem Hi {os:OsState}{st:Nat}(hL:Tells es L) (hn:L.length < 64) (h2:L.length<=1) (dx:(a+1109==sysModules)=false):
  Qb b1 b2 d os fun b1 b2=>⟨Ad w b1 b2,3,⟨(g6 (AN w b1 b2) (A5 w b1 b2 l)),none,none,[(fn f1,p1),(fn f2,p2),(CC,p3)],none⟩,den (g6 (AN w b1 b2) (A5 w b1 b2 l)),[(l+1109,aL [At w b1 b2 k0 a,A0 w b1 b2 a7 k1 st] e0),Ab da,AO a da es ep],j+1109,tk,.u (oN a da ep es L.length hL.size (by lia) dx [1,2] (by decide) rfl)<| .u (fO (Int.ofNat L.length) 1 false (decide_eq_false (Int.not_lt.mpr (Int.ofNat_le.mpr h2))))<| .e (.e (.done .next) [(l+1109,(aL [At w b1 b2 k0 a,A0 w b1 b2 a7 k1 st] e0)),AA da,AO a da es ep] (j+1109) (tk+3))⟩:=bE 77 [0,0,1,0,1] [[0,1],[]] [] 77 [0,0,1,0,1] [[0,1],[]] [] (by kernel_rfl)
theorem Hj {os:OsState}{st:Nat}{q2:Value}(hL:Tells es L) (hn:L.length < 64) (h2:L.length<=1) (dx:(a+1109==sysModules)=false):
  Qb b1 b2 d os fun b1 b2=>⟨Ad w b1 b2,3,⟨(g6 (AN w b1 b2) (A5 w b1 b2 l)),none,none,[(fn f1,p1),(fn f2,p2),(CC,p3)],none⟩,den (g6 (AN w b1 b2) (A5 w b1 b2 l)),[(l+1109,aL [At w b1 b2 k0 a,A0 w b1 b2 a7 k1 st,Ai w b1 b2 km k2 q2] e0),Ab da,AO a da es ep],j+1109,tk,.u (oN a da ep es L.length hL.size (by lia) dx [1,2] (by decide) rfl)<| .u (fO (Int.ofNat L.length) 1 false (decide_eq_false (Int.not_lt.mpr (Int.ofNat_le.mpr h2))))<| .e (.e (.done .next) [(l+1109,(aL [At w b1 b2 k0 a,A0 w b1 b2 a7 k1 st,Ai w b1 b2 km k2 q2] e0)),AA da,AO a da es ep] (j+1109) (tk+3))⟩:=bE 77 [0,0,1,0,1] [[0,1],[]] [] 77 [0,0,1,0,1] [[0,1],[]] [] (by kernel_rfl)
end
inductive SRun:KV×List Int->KV×List Int->Prop
 | z {s:KV×List Int}(h:s.1.length<=1):SRun s s
 | s {s s':KV×List Int}(h2:2<=s.1.length) (k0 c0 k1 c1:Int) (rest:KV) (hp:((k0,c0)::(k1,c1)::rest).Perm s.1) (hd:gY ((k0,c0)::(k1,c1)::rest)) (h:SRun (cL (cU s.1 [(k0,1),(k1,1)]),s.2++[k0,k1]) s'):SRun s s'
inductive vG (W:World) (a st:Nat):Obj->Prop
 | f {k0 k1 e0:Nat}:vG W a st (aL [aa W bL k0 (.ref (a+1109)),aa W a7 k1 (.ref (st+1109))] e0)
 | l {k0 k1 k2 e0:Nat}{q2:Value}:vG W a st (aL [aa W bL k0 (.ref (a+1109)),aa W a7 k1 (.ref (st+1109)),aa W km k2 q2] e0)
theorem iO {L r:KV}(hp:L.Perm r) {x:Int×Int}(h:x∈L):x.1∈r.map (·.1):=(hp.map (·.1)).mem_iff.mp (List.mem_map_of_mem h)
section
variable {d:Drawn}{os:OsState}{w:World}{b1 b2:Bool}{V:Heap}{U:Nat}{R:Result->Shared->Prop}{l a da st:Nat}{f1 f2:FN}{p1 vq p3:Pos}
noncomputable abbrev Cd (w:World) (l:Nat):Code:=g6 (au w 1107 1) (envOf w 1107 (l+1109))
noncomputable abbrev vH (l a da st:Nat) (ns:Obj) (es:Array DictEntry) (ep:Nat) (ls:Array Value) (se:Nat):Mm:=[(l+1109,ns),(da+1109,aA),(a+1109,cnt (da+1109) es ep),(st+1109,ad ls se)]
theorem zp {r₀:KV×List Int}(hk:U<=4) (dx:(a+1109==sysModules)=false)
  (fin:∀ es ep ls se ns s' j tk h g,SRun r₀ s'->Tells es s'.1->ae ls s'.2->vG (W2 w b1 b2) a st ns->AllBare g->Rep (Ad w b1 b2) V U (vH l a da st ns es ep ls se) (j+1109) h->R (.ok .next) ⟨h,g,d,tk,os⟩):
  ∀ (n:Nat) (s:KV×List Int),(∀ s',SRun s s'->SRun r₀ s')->∀ {es:Array DictEntry}{ep se j tk:Nat}{ls:Array Value}{ns:Obj}{h:Heap}{g:Array GenState}{p:Pos},aM s.1<=n->s.2.length+2 * n<=800->s.1.length < 64->Good s.1->
   Tells es s.1->ae ls s.2->vG (W2 w b1 b2) a st ns->AllBare g->Rep (Ad w b1 b2) V U (vH l a da st ns es ep ls se) (j+1109) h->
   wpCode (AK w b1 b2) ⟨Cd (W2 w b1 b2) l,none,none,[(fn f1,p1),(fn f2,vq),(CC,p3)],none⟩ R p ⟨h,g,d,tk,os⟩:=by
 have stop:∀ (s:KV×List Int),(∀ s',SRun s s'->SRun r₀ s')->∀ {es:Array DictEntry}{ep se j tk:Nat}{ls:Array Value}{ns:Obj}{h:Heap}{g:Array GenState}{p:Pos},s.1.length<=1->
   Tells es s.1->ae ls s.2->vG (W2 w b1 b2) a st ns->AllBare g->Rep (E2 (W2 w b1 b2)) V U (vH l a da st ns es ep ls se) (j+1109) h->
   wpCode (Mo (E2 (W2 w b1 b2))) ⟨Cd (W2 w b1 b2) l,none,none,[(fn f1,p1),(fn f2,vq),(CC,p3)],none⟩ R p ⟨h,g,d,tk,os⟩:=by
  intro s hs es ep se j tk ls ns h g p h1 hT hI bz hg rep
  have go:∀ (n2:Nat) (gz:Nat) (h2:Heap) (g2:Array GenState),AllBare g2->Rep (E2 (W2 w b1 b2)) h 3 [(l+1109,ns),(da+1109,aA),(a+1109,cnt (da+1109) es ep)] (n2+1109) h2->R (.ok .next) ⟨h2,g2,d,gz,os⟩:=fun n2 gz h2 g2 ag ac=>
   fin es ep ls se ns s n2 gz h2 g2 (hs s (.z h1)) hT hI bz ag (rep.join' [0,1,2] (by decide) rfl ac rfl)
  refine bc (E:=E2 (W2 w b1 b2)) (V:=h) (U:=3) hg (rep.sub [0,1,2] (aE rfl) (by decide)) ?_
  induction bz with
  | f=>exact Hi hT (by lia) h1 dx p (Nat.le_refl _) fun p2 h2 g2 ag ac=>go _ _ h2 g2 ag ac
  | l=>exact Hj hT (by lia) h1 dx p (Nat.le_refl _) fun p2 h2 g2 ag ac=>go _ _ h2 g2 ag ac
 intro n
 induction n with
 | zero=>
  intro s hs es ep se j tk ls ns h g p hz hb dk hG hT hI bz hg rep
  have:=Good.sum hG.pos
  exact stop s hs (by lia) hT hI bz hg rep
 | succ n ih=>
  intro s hs es ep se j tk ls ns h g p hz hb dk hG hT hI bz hg rep
  by_cases h1:s.1.length<=1
  ·exact stop s hs h1 hT hI bz hg rep
  have h2:2<=s.1.length:=by lia
  refine bc (E:=E2 (W2 w b1 b2)) hg rep ?_
  have go:∀ (x:cX s.1) (u0 u1:Tok) (gy:Array DictEntry) (lv zq n2 gz:Nat) (cD:Obj) (h2:Heap) (g2:Array GenState) (p2:Pos),Tells gy (cL (cU s.1 [(x.k0,1),(x.k1,1)]))->vG (W2 w b1 b2) a st cD->AllBare g2->Rep (E2 (W2 w b1 b2)) V U (vH l a da st cD gy lv (ls++#[.int x.k0 u0,.int x.k1 u1]) zq) (n2+1109) h2->
    wpCode (Mo (E2 (W2 w b1 b2))) ⟨Cd (W2 w b1 b2) l,none,none,[(fn f1,p1),(fn f2,vq),(CC,p3)],none⟩ R p2 ⟨h2,g2,d,gz,os⟩:=by
   intro x u0 u1 gy lv zq n2 gz cD h3 g3 p3 ki fS mF aV
   obtain ⟨g1,g2,JF⟩:=hG.strike (iO x.hp (List.mem_cons_self ..)) (iO x.hp (List.mem_cons_of_mem _ (List.mem_cons_self ..))) (x.ne hG.nd)
   refine ih (cL (cU s.1 [(x.k0,1),(x.k1,1)]),s.2++[x.k0,x.k1]) (fun s' ca=>hs s' (.s h2 x.k0 x.c0 x.k1 x.c1 x.rest x.hp x.hd ca)) ?_ ?_ (Nat.lt_of_le_of_lt JF dk) g1 ki ?_ fS mF aV
   ·show aM (cL (cU s.1 [(x.k0,1),(x.k1,1)]))<=n
    rw [g2];lia
   ·show (s.2++[x.k0,x.k1]).length+2 * n<=800
    rw [List.length_append]
    show s.2.length+2+2 * n<=800
    lia
   ·exact hI.app (show ae #[.int x.k0 u0,.int x.k1 u1] [x.k0,x.k1] from rfl)
  induction bz with
  | f=>exact Hf hT dk h2 hG.nd dx (by rw [hI.size];lia) p hk fun x3 _ x5 _ x7 _ x9 _ kn _ fx _ mK _ kp _ p2 h2 g2 ag ac=>go x7 _ _ _ _ _ _ _ _ h2 g2 p2 kp.hT .l ag ac
  | l=>exact Hg hT dk h2 hG.nd dx (by rw [hI.size];lia) p hk fun x3 _ x5 _ x7 _ x9 _ kn _ fx _ mK _ kp _ p2 h2 g2 ag ac=>go x7 _ _ _ _ _ _ _ _ h2 g2 p2 kp.hT .l ag ac
structure sM (W:World) (a st:Nat) (r:KV) where
 s:KV×List Int
 hR:SRun (r,[]) s
 es:Array DictEntry
 ep:Nat
 hT:Tells es s.1
 ls:Array Value
 se:Nat
 hI:ae ls s.2
 k0:Nat
 k1:Nat
 e0:Nat
 ex:List DictEntry
 j:Nat
 tk:Nat
theorem zr:∀ (n:Nat) (s:KV×List Int),Good s.1->aM s.1<=n->∃ s',SRun s s':=by
 intro n
 induction n with
 | zero=>
  intro s hG hz
  have:=Good.sum hG.pos
  exact ⟨s,.z (by lia)⟩
 | succ n ih=>
  intro s hG hz
  by_cases h1:s.1.length<=1
  ·exact ⟨s,.z h1⟩
  obtain ⟨x⟩:=t5 (L:=s.1) (by lia)
  obtain ⟨g1,g2,_⟩:=hG.strike (iO x.hp (List.mem_cons_self ..)) (iO x.hp (List.mem_cons_of_mem _ (List.mem_cons_self ..))) (x.ne hG.nd)
  obtain ⟨s',h'⟩:=ih (cL (cU s.1 [(x.k0,1),(x.k1,1)]),s.2++[x.k0,x.k1]) g1 (by show aM (cL (cU s.1 [(x.k0,1),(x.k1,1)]))<=n;rw [g2];lia)
  exact ⟨s',.s (by lia) x.k0 x.c0 x.k1 x.c1 x.rest x.hp x.hd h'⟩
theorem t7 {W:World}{a st:Nat}{r:KV}(hG:Good r):Nonempty (sM W a st r):=by
 obtain ⟨s,h⟩:=zr (aM r).toNat (r,[]) hG (by show aM r<=_;lia)
 exact ⟨⟨s,h,_,0,dR _,_,0,eX _,0,0,0,[],0,0⟩⟩
noncomputable def JG (l a da st k0 k1 e0:Nat) (es:Array DictEntry) (ep se:Nat) {r:KV}(hT:Tells es r) (dk:r.length < 64) (hG:Good r) (hz:aM r<=300) (dx:(a+1109==sysModules)=false) (is:List Nat) (nd:is.Nodup) (hl:4=is.length):ay (E2 (W2 w b1 b2)) d os:=
 ay.sub (sM (W2 w b1 b2) a st r) (Classical.choice (t7 hG)) (Cd (W2 w b1 b2) l) [1,1] is (vH l a da st (aL [aa (W2 w b1 b2) bL k0 (.ref (a+1109)),aa (W2 w b1 b2) a7 k1 (.ref (st+1109))] e0) es ep #[] se)
  nd hl (fun _=>.next) (fun x=>vH l a da st (aL (aa (W2 w b1 b2) bL x.k0 (.ref (a+1109))::aa (W2 w b1 b2) a7 x.k1 (.ref (st+1109))::x.ex) x.e0) x.es x.ep x.ls x.se) (fun x=>x.j+1109) (fun x=>x.tk) (fun _=>True) (fun x=>by rw [<- hl];rfl) (by
   intro Γ h g p n tk Q aF hc hg hr k
   refine ze aF hc fun f0 f1 p0 p1 p2=>?_
   obtain ⟨j,rfl⟩:=bY (i:=0) hr rfl
   refine zp (r₀:=(r,[])) (hl▸Nat.le_refl _) dx (fun gy lv zd zq cD s' j' a8 h' g' hR ki lq bz bn bF=>?_) 300 (r,[]) (fun _ z=>z) hz (by show 0+2 * 300<=800;decide) dk hG hT ae.nil .f hg hr
   induction bz with
   | @f k0 k1 e0=>exact k ⟨s',hR,gy,lv,ki,zd,zq,lq,k0,k1,e0,[],j',a8⟩ trivial h' g' bn bF
   | @l k0 k1 k2 e0 q2=>exact k ⟨s',hR,gy,lv,ki,zd,zq,lq,k0,k1,e0,[_],j',a8⟩ trivial h' g' bn bF)
end
theorem EC {d:Drawn}{os:OsState}{w:World}{b1 b2:Bool}{j tk:Nat}{a da ep:Nat}{es:Array DictEntry}{r:KV}{f2:FN}{p2 p3:Pos}(hT:Tells es r) (dk:r.length < 64) (hG:Good r) (hz:aM r<=300) (dx:(a+1109==sysModules)=false):
  Qb b1 b2 d os fun b1 b2=>⟨Ad w b1 b2,2,⟨(.call (.ref 1107) ⟨[.ref (a+1109)],[]⟩),none,none,[(fn f2,p2),(CC,p3)],none⟩,den (.call (.ref 1107) ⟨[.ref (a+1109)],[]⟩),[Ab da,Az a da es ep],j+1109,tk,.c (JG j a da (j+1) tk (tk+1) 2 es ep 0 hT dk hG hz dx [2,0,1,3] (by decide) rfl) fun x1=>.e (.e (.done (.ret (.ref (j+1110)))) [Ab da,(a+1109,Ac da (sM.es x1) (x1.ep)),(j+1110,⟨(.type "list"),none,.seq (sM.ls x1) (x1.se),#[]⟩)] ((x1.j)+1109) ((x1.14)))⟩:=ee 88 [0,0,3,3,0,0,3,3,1] [[3]] [3] (by kernel_rfl)
noncomputable def aJ (o f:Value) (d i n ep:Nat) (ok ov:Value):Obj:=⟨.type "dict_itemiterator",none,.fields #[o,f,.ref d,.int i 0,.int n 0,.int ep 0,ok,ov],#[]⟩
noncomputable def aD (h:Heap) (As:List Nat) (o:Value):Prop:=o=.none∨∃ a oa,o=rawInt (Int.ofNat a)/\h.get? a=some oa/\a ∉ As
section
variable {E:En}{A:Around}{X:Value->Shared->Prop}{s:Shared}{it d i n ep:Nat}{od:Obj}{es:Array DictEntry}{o f ok ov:Value}
theorem oR {e:DictEntry}{Q:PySem.Fin->Shared->Prop}(hit:s.heap.get? it=some (aJ o f d i n ep ok ov)) (cZ:s.heap.get? d=some od) (bT:od.data=.dict es ep) (ax:es.size=n) (hx:es[i]?=some e) (ho:aD s.heap [it] o)
  (h:∀ h' o' f' fq jt,h'.get? it=some (aJ o' f' d (i+1) n ep fq jt)->h'.get? s.heap.objs.size=some (bb e.key e.val)->h'.objs.size=s.heap.objs.size+1->(∀ b x,b≠it->s.heap.get? b=some x->h'.get? b=some x)->
   (o'=rawInt (Int.ofNat s.heap.objs.size)∨(o'=o/\o≠.none))->Q (.done (.ret (.ref s.heap.objs.size))) {s with heap:=h'}):wpAny (Mo E) A (Builtin.«dict_itemiterator.__next__» ⟨[.ref it],[]⟩) Q X s:=by
 obtain ⟨hp,g,dr,tk,os⟩:=s
 have hT:Shared.TypeIs ⟨hp,g,dr,tk,os⟩ (.ref it) "dict_itemiterator":=⟨_,hit,rfl⟩
 refine wpAny_bind (wpAny_pure ?_)
 refine wpAny_bind ?_
 refine wpAny_bind ?_
 first | refine wpAny_bind (wpAny_typeNameOfWhole_itemiter hT (wpAny_pure ?_)) | refine wpAny_bind (wpAny_typeNameOf_itemiter hT (wpAny_pure ?_))
 refine wpAny_bind (wpAny_fieldsOf hit rfl ?_)
 have dJ:Builtin.Dict_items.ownsTuple "dict_itemiterator"=true:=by decide
 simp only [dJ,if_true]
 show wpAny _ _ (if (Value.ref d==Value.none)=true then _ else _) _ _ _
 rw [if_neg (show ¬ ((Value.ref d==Value.none)=true) from Bool.false_ne_true)]
 refine wpAny_bind (wpAny_pure ?_)
 refine wpAny_bind (wpAny_dictEntries cZ bT ?_)
 rw [if_neg (by rw [ax];simp)]
 refine wpAny_bind (wpAny_pure ?_)
 refine wpAny_bind (wpAny_dictEpoch cZ bT ?_)
 rw [if_neg (by simp)]
 refine wpAny_pure ?_
 simp only [show ¬ ((i:Int) < 0) from by lia,if_false,Int.toNat_natCast,hx]
 refine wpAny_bind ?_
 first | refine wpAny_bind (wpAny_typeNameOfWhole_itemiter hT (wpAny_pure ?_)) | refine wpAny_bind (wpAny_typeNameOf_itemiter hT (wpAny_pure ?_))
 refine wpAny_bind (wpAny_isOneOf_itemiter hT ?_)
 show wpAny _ _ (setField (.ref it) 3 (rawInt ((i:Int)+1))>>=_) _ _ ⟨hp,g,dr,tk,os⟩
 refine wpAny_bind (wpAny_setField_rec hit (by simp) fun h₁ bO bv=>?_)
 replace bv:Heap.SameBut it hp h₁:=bv
 replace bO:h₁.get? it=some (aJ o f d (i+1) n ep ok ov):=bO
 have fJ:Shared.TypeIs ⟨h₁,g,dr,tk,os⟩ (.ref it) "dict_itemiterator":=⟨_,bO,rfl⟩
 refine wpAny_bind (wpAny_holding ?_)
 refine wpAny_bind (wpAny_isOneOf_itemiter fJ ?_)
 refine wpAny_bind (wpAny_isOneOf_itemiter fJ ?_)
 show wpAny _ _ (Builtin.Dict_items.pairFromOwner (.ref it) 6 e.key e.val) _ _ ⟨h₁,g,dr,tk,os⟩
 unfold Builtin.Dict_items.pairFromOwner
 refine wpAny_bind (wpAny_newTuple ?_)
 have ce:(h₁.push (bb e.key e.val)).get? it=some (aJ o f d (i+1) n ep ok ov):=Heap.get?_push_of_some _ bO
 show wpAny _ _ _ _ _ ⟨h₁.push (bb e.key e.val),g,dr,tk,os⟩
 generalize eg:h₁.push (bb e.key e.val)=h₂ at ce
 have ej:h₁.objs.size=hp.objs.size:=bv.1
 have k8:it < hp.objs.size:=Heap.lt_size hit
 have jY:h₂.get? hp.objs.size=some (bb e.key e.val):=by rw [<- eg,<- ej];exact Heap.get?_push_size _ rfl
 have jZ:h₂.objs.size=hp.objs.size+1:=by rw [<- eg,Heap.size_push,ej]
 have io:∀ b o,b≠it->hp.get? b=some o->h₂.get? b=some o:=fun b o hb e=>by rw [<- eg];exact Heap.get?_push_of_some _ (bv.extBut b o hb e)
 show wpAny _ _ (Builtin.Dict_items.ownedTupleIsFree (.ref it)>>=_) _ _ ⟨h₂,g,dr,tk,os⟩
 rw [ej]
 clear eg bO bv fJ ej h₁
 refine wpAny_bind ?_
 unfold Builtin.Dict_items.ownedTupleIsFree
 refine wpAny_bind (wpAny_field ce rfl (x:=o) rfl ?_)
 rcases ho with rfl | ⟨a,oa,rfl,ha,hn⟩
 ·refine wpAny_pure ?_
  simp only [if_true]
  refine wpAny_bind (wpAny_field ce rfl (x:=ok) rfl ?_)
  refine wpAny_bind (wpAny_field ce rfl (x:=ov) rfl ?_)
  refine wpAny_bind (wpAny_setField_rec ce (by simp) fun cQ dw b9=>?_)
  replace b9:Heap.SameBut it h₂ cQ:=b9
  replace dw:cQ.get? it=some (aJ .none f d (i+1) n ep e.key ov):=dw
  refine wpAny_bind (wpAny_setField_rec dw (by simp) fun lS ja fK=>?_)
  replace fK:Heap.SameBut it cQ lS:=fK
  replace ja:lS.get? it=some (aJ .none f d (i+1) n ep e.key e.val):=ja
  refine wpAny_bind (wpAny_setField_rec ja (by simp) fun lT jb fL=>?_)
  replace fL:Heap.SameBut it lS lT:=fL
  replace jb:lT.get? it=some (aJ (rawInt (Int.ofNat hp.objs.size)) f d (i+1) n ep e.key e.val):=jb
  refine wpAny_bind (wpAny_setField_rec jb (by simp) fun jD jc fM=>?_)
  replace fM:Heap.SameBut it lT jD:=fM
  replace jc:jD.get? it=some (aJ (rawInt (Int.ofNat hp.objs.size)) (.bool false) d (i+1) n ep e.key e.val):=jc
  refine wpAny_bind (wpAny_letGo (wpAny_pure (wpAny_pure (h jD _ _ _ _ jc ?_ ?_ ?_ (.inl rfl)))))
  ·exact fM.extBut _ _ (Nat.ne_of_gt k8) (fL.extBut _ _ (Nat.ne_of_gt k8) (fK.extBut _ _ (Nat.ne_of_gt k8) (b9.extBut _ _ (Nat.ne_of_gt k8) jY)))
  ·show jD.objs.size=hp.objs.size+1
   rw [fM.1,fL.1,fK.1,b9.1,jZ]
  ·exact fun b o hb e=>fM.extBut b o hb (fL.extBut b o hb (fK.extBut b o hb (b9.extBut b o hb (io b o hb e))))
 ·have oF:a≠it:=fun e=>hn (e▸List.mem_cons_self ..)
  show wpAny _ _ (loadIfAlive ((a:Int).toNat)>>=_) _ _ _
  rw [Int.toNat_natCast]
  refine wpAny_bind (kdx_alive (io a oa oF ha) ?_)
  simp only [Option.isNone_some,Bool.false_eq_true,if_false]
  refine wpAny_bind (wpAny_field ce rfl (x:=f) rfl ?_)
  have fin:∀ (cQ:Heap) (f':Value),cQ.get? it=some (aJ (rawInt (Int.ofNat a)) f' d (i+1) n ep ok ov)->Heap.SameBut it h₂ cQ->Q (.done (.ret (.ref hp.objs.size))) ⟨cQ,g,dr,tk,os⟩:=fun cQ f' dw b9=>
   h cQ _ f' _ _ dw (b9.extBut _ _ (Nat.ne_of_gt k8) jY) (by show cQ.objs.size=hp.objs.size+1;rw [b9.1,jZ]) (fun b o hb e=>b9.extBut b o hb (io b o hb e)) (.inr ⟨rfl,fun z=>nomatch z⟩)
  refine wpAny_ite_split (fun _=>?_) (fun _=>?_)
  ·refine wpAny_bind (wpAny_setField_rec ce (by simp) fun cQ dw b9=>?_)
   refine wpAny_pure ?_
   simp only [Bool.false_eq_true,if_false]
   exact wpAny_pure (wpAny_pure (fin cQ _ dw b9))
  ·refine wpAny_pure ?_
   simp only [Bool.false_eq_true,if_false]
   exact wpAny_pure (wpAny_pure (fin h₂ _ ce (Heap.SameBut.refl _ _)))
theorem oS {Q:PySem.Fin->Shared->Prop}(hh:A.handled=none) (hit:s.heap.get? it=some (aJ o f d i n ep ok ov)) (cZ:s.heap.get? d=some od) (bT:od.data=.dict es ep) (ax:es.size=n) (hx:n<=i)
  (h:∀ h' o',h'.get? it=some o'->Heap.SameBut it s.heap h'->X (.ref (s.heap.objs.size+1)) {s with heap:=(h'.push fy).push (kK s.heap.objs.size)}):wpAny (Mo E) A (Builtin.«dict_itemiterator.__next__» ⟨[.ref it],[]⟩) Q X s:=by
 have hT:s.TypeIs (.ref it) "dict_itemiterator":=⟨_,hit,rfl⟩
 refine wpAny_bind (wpAny_pure ?_)
 refine wpAny_bind ?_
 refine wpAny_bind ?_
 first | refine wpAny_bind (wpAny_typeNameOfWhole_itemiter hT (wpAny_pure ?_)) | refine wpAny_bind (wpAny_typeNameOf_itemiter hT (wpAny_pure ?_))
 refine wpAny_bind (wpAny_fieldsOf hit rfl ?_)
 have dJ:Builtin.Dict_items.ownsTuple "dict_itemiterator"=true:=by decide
 simp only [dJ,if_true]
 show wpAny _ _ (if (Value.ref d==Value.none)=true then _ else _) _ _ s
 rw [if_neg (show ¬ ((Value.ref d==Value.none)=true) from Bool.false_ne_true)]
 refine wpAny_bind (wpAny_pure ?_)
 refine wpAny_bind (wpAny_dictEntries cZ bT ?_)
 rw [if_neg (by rw [ax];simp)]
 refine wpAny_bind (wpAny_pure ?_)
 refine wpAny_bind (wpAny_dictEpoch cZ bT ?_)
 rw [if_neg (by simp)]
 refine wpAny_pure ?_
 have rF:es.size<=i:=by rw [ax];exact hx
 simp only [show ¬ ((i:Int) < 0) from by lia,if_false,Int.toNat_natCast,Array.getElem?_eq_none rF]
 refine wpAny_bind ?_
 first | refine wpAny_bind (wpAny_typeNameOfWhole_itemiter hT (wpAny_pure ?_)) | refine wpAny_bind (wpAny_typeNameOf_itemiter hT (wpAny_pure ?_))
 show wpAny _ _ (setField (.ref it) 2 .none>>=_) _ _ s
 refine wpAny_bind (wpAny_setField_rec hit (by simp) fun h₁ bO bv=>?_)
 refine j8 hh ?_
 have z:=h h₁ _ bO bv
 rw [<- bv.1] at z
 exact z
end
structure b6 where
 o:Value
 f:Value
 ok:Value
 ov:Value
section
variable {E:En}{d:Drawn}{os:OsState}
noncomputable def kU (ii di:Nat) (j0 it dd i n ep:Nat) (o f ok ov:Value) (od:Obj) (es:Array DictEntry) (bT:od.data=.dict es ep) (hn:es.size=n) (e:DictEntry) (hx:es[i]?=some e) (As:List Nat) (K:Nat):CH E d os where
 X:=b6
 x0:=⟨.none,.none,.none,.none⟩
 L:=_
 look q:=(bG q.code,Y q.m ii,Y q.m di,q.n,(List.range K).map fun i=>(Y q.m i).map (·.1))
 v:=(some ("dict_itemiterator.__next__",[.ref it]),some (it,aJ o f dd i n ep ok ov),some (dd,od),j0,As.map some)
 ans x q:=⟨.pure (.done (.ret (.ref j0))),q.p,bh (aK q.m ii (aJ x.o x.f dd (i+1) n ep x.ok x.ov)) (j0,bb e.key e.val),j0+1,q.tk,[]⟩
 says x:=x.o=rawInt (Int.ofNat j0)∨(x.o=o/\o≠.none)
 gd V U:=U<=K/\aD V As o/\it∈As
 holds:=by
  intro V U ⟨hk,ho,hit⟩ hs q Q h g e' hc hg hr kk
  simp only [Prod.mk.injEq] at e'
  obtain ⟨e1,e2,e3,e4,e5⟩:=e'
  have dJ:aD h [it] o:=by
   rcases ho with rfl | ⟨a,oa,rfl,ha,hn⟩
   ·exact .inl rfl
   ·refine .inr ⟨a,oa,rfl,hr.keep a oa ha fun j b o' hj hm e=>?_,fun hm=>?_⟩
    ·subst e
     have z:=congrArg (fun l=>l[j]?) e5
     simp only [List.getElem?_map,List.getElem?_range (Nat.lt_of_lt_of_le hj hk),Option.map_some,hm] at z
     cases q:As[j]? with
     | none=>rw [q] at z;cases z
     | some c=>
      rw [q] at z
      have z:b=c:=Option.some.inj (Option.some.inj z)
      exact hn (z▸List.mem_of_getElem? q)
    ·rw [List.mem_singleton.mp hm] at hn
     exact hn hit
  refine am (hc.trans (gM e1)) F.entry_dict_itemiterator_next ?_
  have ax:h.objs.size=j0:=hr.size.trans e4
  refine Sem.wp_mono _ _ _ (fun a p' s' h'=>?_) (fun e p' s' h'=>h'.elim) _ _ (aR (Q:=fun f s'=>∃ v,f=.done (.ret v)/\Q (.ok (.ret v)) s') (E:=fun _ _=>False)
   (oR (hr.own _ _ _ e2) (hr.own _ _ _ e3) bT hn hx dJ fun h' o' f' fq jt h1 h2 h3 h4 h5=>⟨_,rfl,?_⟩) _)
  ·obtain ⟨v,rfl,h'⟩:=h'
   exact h'
  ·rw [show (⟨h,g,d,q.tk,os⟩:Shared).heap.objs.size=j0 from ax] at h2 h3 h5 ⊢
   have r1:=hr.chg e2 h1 h3 (by rw [e4];exact Nat.le_succ _) h4
   have nj:∀ a x,Y (aK q.m ii (aJ o' f' dd (i+1) n ep fq jt)) a≠some (j0,x):=fun a x z=>by
    rw [bN] at z
    split at z
    ·rw [e2] at z
     have:=congrArg Prod.fst (Option.some.inj z)
     dsimp only at this
     have:=hr.lt e2
     lia
    ·have:=hr.lt z
     lia
   have r8:=hr.start
   have r2:=r1.know h2 (by rw [e4] at r8;exact r8) nj (hr.lowT j0 (by rw [e4];exact Nat.le_refl _))
   exact kk ⟨o',f',fq,jt⟩ h5 h' g hg r2
noncomputable def Hk (ii di:Nat) (it dd i n ep:Nat) (o f ok ov:Value) (od:Obj) (es:Array DictEntry) (bT:od.data=.dict es ep) (hn:es.size=n) (hx:n<=i):ay E d os:=
 ay.stop Obj fy (fun q=>(bG q.code,Y q.m ii,Y q.m di,q.Γ.handled)) (some ("dict_itemiterator.__next__",[.ref it]),some (it,aJ o f dd i n ep ok ov),some (dd,od),none) (fun o q=>aK q.m ii o) (by
  intro V U q Q h g e' hc hg hr kk
  simp only [Prod.mk.injEq] at e'
  obtain ⟨e1,e2,e3,e4⟩:=e'
  refine am (hc.trans (gM e1)) F.entry_dict_itemiterator_next ?_
  refine Sem.wp_mono _ _ _ (fun a p' s' h'=>h'.elim) (fun e p' s' h'=>h') _ _ (aR (Q:=fun f s'=>False) (E:=fun e s'=>Q (.error e) s')
   (oS (show (fb q.Γ).handled=none from e4) (hr.own _ _ _ e2) (hr.own _ _ _ e3) bT hn hx fun h' o' he hs=>?_) _)
  have z:=kk o' h' (hr.chg e2 he (hs.1.trans hr.size) (Nat.le_refl _) fun b x hb hx=>(hs.2 b hb).trans hx)
  rw [<- hr.size] at z
  exact z)
end
theorem zt {prog : Program} {w : World} {A : Around} {s : Shared} {T : Nat} {x y : Value} {R : Result -> Shared -> Prop} (hT : s.heap.get? T = some (bb x y))
    (h : ∀ h' c, h'.get? s.heap.objs.size = some (ad #[x, y] c) -> h'.objs.size = s.heap.objs.size + 1 -> (∀ b o, s.heap.get? b = some o -> h'.get? b = some o) -> R (.ok (.ret (.ref s.heap.objs.size))) { s with heap := h' }) :
    codeAny (model prog w) A (.builtin "proto.collect" ⟨[.ref T], []⟩) R s := by
  refine codeAny_builtin entry_proto_collect' ?_
  show wpAny _ _ (do again (.builtin "list.__iadd__" ⟨[<- newList [], .ref T], []⟩)) _ _ s
  refine wpAny_bind (wpAny_newList (wpAny_pure ⟨Code.quiet_builtin _ (by decide +kernel), codeAny_builtin entry_list_iadd' ?_⟩))
  rw [Around.under_plainId (by decide +kernel)]
  show wpAny _ _ (Builtin.List.listExtendWith (.ref s.heap.objs.size) (.ref T) (.ref s.heap.objs.size)) _ _ { s with heap := s.heap.push (ad #[] 0) }
  have Ky := Heap.lt_size hT
  have Hl := Heap.get?_push_of_some (ad #[] 0) hT
  have hS : (s.heap.push (ad #[] 0)).get? s.heap.objs.size = some (ad #[] 0) := Heap.get?_push_size _ rfl
  unfold Builtin.List.listExtendWith
  refine wpAny_bind (wpAny_typeOf (T := "tuple") ⟨_, Hl, rfl⟩ ?_)
  have h3 : (Value.type "tuple" == Value.type "tuple") = true := by decide
  rw [if_pos (by rw [h3]; simp)]
  refine wpAny_bind (listItems_at Hl rfl ?_)
  refine wpAny_bind (listItems_at hS rfl ?_)
  rw [if_neg (by simp)]
  refine wpAny_bind (listUpdate_at hS rfl ?_ (Nat.zero_le _) (by show 2 <= sizeLine + 1; rw [sizeLine_eq]; decide))
  obtain ⟨c, hc⟩ : ∃ c, ((s.heap.push (ad #[] 0)).update s.heap.objs.size (Obj.mapSeq (· ++ #[x, y]))).get? s.heap.objs.size = some (ad #[x, y] c) := ⟨_, get?_update_seq hS (· ++ #[x, y])⟩
  refine wpAny_pure (h _ c hc ?_ fun b o e => ?_)
  · show (Heap.update _ _ _).objs.size = _
    rw [Heap.size_update, size_push']
  · exact (Heap.get?_update_other _ _ (Nat.ne_of_gt (Heap.lt_size e))).trans (Heap.get?_push_of_some _ e)
section
variable {E:En}{d:Drawn}{os:OsState}
noncomputable def ix (i:Nat) (T:Nat) (x y:Value):ay E d os:=
 ay.leaf Nat 0 (fun q=>(bG q.code,Y q.m i)) (some ("proto.collect",[.ref T]),some (T,bb x y)) (fun _ q=>.ref q.n) (fun c q=>bh q.m (q.n,ad #[x,y] c)) (fun _ q=>q.n+1) (fun _ q=>q.tk) (fun _=>True) (by
  intro V U q Q h g e' hc hg hr kk
  obtain ⟨e1,e2⟩:=Prod.ext_iff.mp e'
  dsimp only at e1 e2
  have ax:h.objs.size=q.n:=hr.size
  refine zt (T:=T) (x:=x) (y:=y) (R:=Q) (s:=⟨h,g,d,q.tk,os⟩) (A:=ml q.Γ) (hr.own _ _ _ e2) (fun h' c h1 h2 h3=>?_) q.Γ q.p (hc.trans (gM e1)) (fR q.Γ)
  rw [show (⟨h,g,d,q.tk,os⟩:Shared).heap.objs.size=q.n from ax] at h1 h2 ⊢
  have r1:=hr.grow h2 (Nat.le_succ _) h3
  have r2:=r1.know h1 hr.start (fun i o z=>by have:=hr.lt z;lia) (hr.lowT _ (Nat.le_refl _))
  exact kk c trivial h' g hg r2)
end
noncomputable def jN (Γ:Ctx):Around:={handled:=Γ.handled,depth:=frameCount Γ.below+Γ.code.weight,frames:=some (Γ.code.envs++envsOf Γ.below),units:=Γ.units}
theorem t8 (Γ:Ctx):Γ.In (jN Γ):=⟨rfl,Nat.le_refl _,(fun _ h=>by cases h;rfl),(fun _ h=>nomatch h),Nat.le_refl _⟩
noncomputable def kq (m:Mm) (i:Nat) (sl:Array (Option Value)):Mm:=match Y m i with
 | some x=>aK m i ⟨x.2.cls,x.2.dict,x.2.data,sl⟩
 | none=>m
noncomputable def iy (f:Nat->Array (Option Value)) (is:List Nat):Mm->Mm:=@List.rec Nat (fun _=>Mm->Mm) (fun m=>m) (fun i _ ih m=>ih (kq m i (f i))) is
theorem qT (m:Mm) (i j:Nat) (sl:Array (Option Value)):Y (kq m i sl) j=if j=i then (Y m j).map (fun x=>(x.1,⟨x.2.cls,x.2.dict,x.2.data,sl⟩)) else Y m j:=by
 unfold kq
 cases q:Y m i with
 | none=>
  by_cases hj:j=i
  ·subst hj;rw [if_pos rfl,q];rfl
  ·rw [if_neg hj]
 | some x=>
  show Y (aK m i _) j=_
  rw [bN]
  by_cases hj:j=i
  ·subst hj;rw [if_pos rfl,if_pos rfl,q];rfl
  ·rw [if_neg hj,if_neg hj]
theorem eY (f:Nat->Array (Option Value)):∀ (is:List Nat) (m:Mm) (j:Nat),Y (iy f is m) j=if j∈is then (Y m j).map (fun x=>(x.1,⟨x.2.cls,x.2.dict,x.2.data,f j⟩)) else Y m j
 | [],m,j=>by rw [if_neg (by simp)];rfl
 | i::is,m,j=>by
  show Y (iy f is (kq m i (f i))) j=_
  rw [eY f is,qT]
  by_cases h1:j=i
  ·subst h1
   rw [if_pos rfl,if_pos (List.mem_cons_self ..)]
   split
   ·cases Y m j<;>rfl
   ·rfl
  ·rw [if_neg h1]
   by_cases h2:j∈is
   ·rw [if_pos h2,if_pos (List.mem_cons_of_mem _ h2)]
   ·rw [if_neg h2,if_neg (by simp [h1,h2])]
theorem sN (m:Mm) (i:Nat) (sl:Array (Option Value)):ah (kq m i sl)=ah m:=by
 unfold kq
 cases Y m i with
 | none=>rfl
 | some x=>exact fE ..
theorem qU (f:Nat->Array (Option Value)):∀ (is:List Nat) (m:Mm),ah (iy f is m)=ah m
 | [],m=>rfl
 | i::is,m=>(qU f is _).trans (sN ..)
section
variable {E:En}{V:Heap}{U:Nat}{m:Mm}{n:Nat}{h:Heap}
theorem Rep.slots (r:Rep E V U m n h) {S:List Addr}{h':Heap}(hs:Heap.SlotsOnly S h h') (is:List Nat) (hS:∀ b∈S,∃ i∈is,∃ o,Y m i=some (b,o)):∃ f,Rep E V U (iy f is m) n h':=by
 obtain ⟨f,hf⟩:∃ f:Nat->Array (Option Value),∀ i x o,Y m i=some x->h'.get? x.1=some o->f i=o.slots:=
  ⟨fun i=>(((Y m i).bind fun x=>h'.get? x.1).map Obj.slots).getD #[],fun i x o e1 e2=>by simp only [e1,Option.bind_some,e2,Option.map_some,Option.getD_some]⟩
 refine ⟨f,?_⟩
 have ga:∀ j a o,Y (iy f is m) j=some (a,o)->∃ o',Y m j=some (a,o'):=fun j a o e=>by
  rw [eY] at e
  split at e
  ·cases q:Y m j with
   | none=>rw [q] at e;cases e
   | some x=>rw [q] at e;cases e;exact ⟨_,rfl⟩
  ·exact ⟨_,e⟩
 have off:∀ a,(∀ i o,Y m i≠some (a,o))->a ∉ S:=fun a hn ha=>by
  obtain ⟨i,_,o,e⟩:=hS a ha
  exact hn i o e
 refine ⟨hs.1.trans r.size,fun a o e q=>?_,fun i a o e=>?_,fun i j a o o' e1 e2=>?_,fun i a o e=>?_,fun b o e q=>?_,r.start,fun i a o hi e=>?_,by rw [qU];exact r.old,r.lowT⟩
 ·refine (hs.2.1 a (off a fun i o' z=>?_)).trans (r.base a o e q)
  rcases r.off i a o' z with z' | z'
  ·rw [z'] at q;cases q
  ·rw [z'] at e;cases e
 ·rw [eY] at e
  split at e
  ·cases q:Y m i with
   | none=>rw [q] at e;cases e
   | some x=>
    rw [q] at e
    cases e
    obtain ⟨sl,e2⟩:=hs.2.2 _ _ (r.own i x.1 x.2 q)
    rw [e2]
    rw [hf i x _ q e2]
  ·rename_i hi
   refine (hs.2.1 a fun ha=>?_).trans (r.own i a o e)
   obtain ⟨j,hj,o',e'⟩:=hS a ha
   exact hi (r.apart i j a o o' e e'▸hj)
 ·obtain ⟨x,e1⟩:=ga i a o e1
  obtain ⟨y,e2⟩:=ga j a o' e2
  exact r.apart i j a x y e1 e2
 ·obtain ⟨x,e⟩:=ga i a o e
  exact r.off i a x e
 ·refine (hs.2.1 b (off b fun i o' z=>?_)).trans (r.keep b o e fun i a o' hi z=>q i a ?_ hi ?_)
  ·by_cases hi:i < U
   ·refine q i b (if i∈is then ⟨o'.cls,o'.dict,o'.data,f i⟩ else o') hi ?_ rfl
    rw [eY]
    split
    ·rw [z];rfl
    ·exact z
   ·have h1:=r.fresh i b o' (Nat.le_of_not_lt hi) z
    have h2:=Heap.lt_size e
    lia
  ·exact (if i∈is then ⟨o'.cls,o'.dict,o'.data,f i⟩ else o')
  ·rw [eY]
   split
   ·rw [z];rfl
   ·exact z
 ·obtain ⟨x,e⟩:=ga i a o e
  exact r.fresh i a x hi e
end
structure V6 where
 a:Value
 b:Value
 c:Value
 d:Value
 e:Value
 f:Value
noncomputable def dg (head:Value) (L:Nat) (fl:Value) (x:V6):Obj:=⟨.type "traceback",none,.fields #[head,.ref L,.none,fl,.none,x.a,x.b,x.c,x.d,x.e,x.f],#[]⟩
noncomputable def bu (t:Nat) (tb:Value):Obj:=⟨.type "StopIteration",none,.fields #[.ref t,tb,.none,.none,.bool false,.none],#[]⟩
theorem Ce {pl:List Value}(hp:IsPlace pl) (head:Value) (L:Nat):∃ x,(⟨.type "traceback",none,.fields ([head,.ref L,.none,rawInt L,.none]++(if pl.isEmpty then List.replicate 6 Value.none else pl)).toArray,#[]⟩:Obj)=dg head L (rawInt L) x:=by
 rcases hp with rfl | ⟨a,b,c,d,e,f,_,rfl⟩
 ·exact ⟨⟨.none,.none,.none,.none,.none,.none⟩,rfl⟩
 ·exact ⟨⟨_,_,_,_,_,_⟩,rfl⟩
section
variable {M:Model}{A:Around}{X:Value->Shared->Prop}{s:Shared}{env:Env}{eH:List Env}{L e t:Nat}{Q:Unit->Shared->Prop}
theorem mN {tb head : Value} {hn : Bool} (dP : A.frames = some (env :: eH)) (hl : s.heap.FunFrames {} (env :: eH)) (hf : env.frame = some L) (he : s.heap.get? e = some (bu t tb))
    (h : ∀ h₁ x, Heap.SlotsOnly ((env :: eH).filterMap (·.frame)) s.heap h₁ -> Q () { s with heap := (h₁.push (dg head L (rawInt L) x)).update e (Obj.mapFields (·.setIfInBounds 1 (.ref s.heap.objs.size))) }) :
    wpAny M A (do setField (.ref e) 1 (<- EntryCells.newEntry head (<- frameOf env) .none (rawInt L) .none (<- entryPlaceOf L hn))) Q X s := by
  have Hm : e ∉ (env :: eH).filterMap (·.frame) := fun hm => by
    obtain ⟨_, o, ho, JH⟩ := hl.mem hm
    rw [he] at ho; injection ho with ho; subst ho; exact JH _ rfl
  refine wpAny_bind (wpAny_frameOf_fun dP hl hf fun h₁ bv => ?_)
  refine wpAny_bind (wpAny_entryPlaceOf fun pl Hn => ?_)
  unfold EntryCells.newEntry newFields
  refine wpAny_bind (wpAny_newObj_type ?_ (Hn.sizeOk5 _ _ _ _ _))
  obtain ⟨x, hx⟩ := Ce Hn head L
  have hz := h h₁ x bv
  rw [<- hx] at hz
  have bO : h₁.get? e = some (bu t tb) := (bv.2.1 e Hm).trans he
  refine wpAny_setField (Heap.get?_push_of_some _ bO) rfl (by show 1 < 6; decide) ?_
  show Q () _
  rw [<- bv.1] at hz
  exact hz
theorem qV (dP:A.frames=some (env::eH)) (hl:s.heap.FunFrames {} (env::eH)) (hf:env.frame=some L) (he:s.heap.get? e=some (bu t .none))
  (h:∀ h₁ x,Heap.SlotsOnly ((env::eH).filterMap (·.frame)) s.heap h₁->Q () {s with heap:=(h₁.push (dg .none L (rawInt L) x)).update e (Obj.mapFields (·.setIfInBounds 1 (.ref s.heap.objs.size)))}):
  wpAny M A (noteFrame (.ref e) env) Q X s:=by
 unfold noteFrame
 simp only [hf]
 refine wpAny_bind (wpAny_field he rfl (x:=.none) rfl ?_)
 rw [if_neg (by decide)]
 exact mN dP hl hf he h
theorem kV {T:Nat}{hd:Value}{L':Nat}{x:V6}(hf:env.frame=some L) (he:s.heap.get? e=some (bu t (.ref T))) (hT:s.heap.get? T=some (dg hd L' (rawInt L) x)) (h:Q () s):wpAny M A (noteFrame (.ref e) env) Q X s:=
 wpAny_noteFrame_inFlight hf he rfl rfl hT rfl rfl h
end
section
variable {E:En}{V:Heap}{U:Nat}{m:Mm}{n:Nat}{h h₁:Heap}{S:List Addr}{e t T L:Nat}{tb hd:Value}{x:V6}
theorem Rep.noted (r:Rep E V U m n h) (is:List Nat) {ie:Nat}(he:Y m ie=some (e,bu t tb)) (qW:ie ∉ is) (hs:Heap.SlotsOnly S h h₁) (hS:∀ b∈S,∃ i∈is,∃ o,Y m i=some (b,o)):
  ∃ f,Rep E V U (bh (aK (iy f is m) ie (bu t (.ref n))) (n,dg hd L (rawInt L) x)) (n+1) ((h₁.push (dg hd L (rawInt L) x)).update e (Obj.mapFields (·.setIfInBounds 1 (.ref h.objs.size)))):=by
 obtain ⟨f,r1⟩:=r.slots hs is hS
 refine ⟨f,?_⟩
 have r2:=r1.push (o:=dg hd L (rawInt L) x) rfl
 have em:∀ {m:Mm}{i:Nat}{o:Obj}{y:Addr×Obj},i < ah m->aK (bh m y) i o=bh (aK m i o) y:=by
  intro m
  induction m with
  | nil=>intro i o y hi;exact absurd hi (Nat.not_lt_zero _)
  | cons z m ih=>
   intro i o y hi
   cases i with
   | zero=>rfl
   | succ i=>exact congrArg (z::·) (ih (Nat.lt_of_succ_lt_succ hi))
 have g1:Y (iy f is m) ie=some (e,bu t tb):=by rw [eY,if_neg qW];exact he
 have g2:Y (bh (iy f is m) (n,dg hd L (rawInt L) x)) ie=some (e,bu t tb):=by
  rw [av,if_neg (Nat.ne_of_lt (dU _ _ _ g1))];exact g1
 have r3:=(r2.update (f:=Obj.mapFields (·.setIfInBounds 1 (.ref h.objs.size))) g2 rfl).2
 rw [r.size] at r3 ⊢
 have e1:aK (bh (iy f is m) (n,dg hd L (rawInt L) x)) ie ((bu t tb).mapFields (·.setIfInBounds 1 (.ref n)))=bh (aK (iy f is m) ie (bu t (.ref n))) (n,dg hd L (rawInt L) x):=
  em (dU _ _ _ g1)
 rw [e1] at r3
 exact r3
end
noncomputable def zu (e:Value) (env:Env) (hs:List ExceptHandler):Sem Fin:=R.bindR (Fast.tw5670386056902412789 e none) fun _=>R.bindR (Fast.tw14206642085496868694 e env hs) fun fl=>.pure (.done fl)
theorem Cf (e:Value) (env:Env) (hs:List ExceptHandler):zu e env hs=(setFlight e none>>=fun _=>handleBy e env hs>>=fun fl=>(.pure (.done fl):Sem Fin)):=by
 unfold zu;rw [<- R.bindR_eq,<- Fast.te5670386056902412789]
 refine congrArg (Sem.bind _) (funext fun _=>?_)
 rw [<- Fast.te14206642085496868694];rfl
noncomputable def Cg (e:Value) (env:Env) (hs:List ExceptHandler):Sem Fin:=R.bindR (Fast.tw11471732733879165300 e env hs) fun fl=>.pure (.done fl)
theorem Ch (e:Value) (env:Env) (hs:List ExceptHandler):Cg e env hs=(handleWith e env hs>>=fun fl=>(.pure (.done fl):Sem Fin)):=by
 unfold Cg;rw [<- R.bindR_eq,<- Fast.te11471732733879165300];rfl
noncomputable def Ci (t:Expr) (env:Env):Sem Fin:=R.bindR (Fast.tw15418851999007992765 t env (Fast.tw14044960220447912780 t env)) fun b=>.pure (.done (.ret (.bool b)))
theorem Cj (t:Expr) (env:Env):Ci t env=(isTrue t env (eval t env)>>=fun b=>(.pure (.done (.ret (.bool b))):Sem Fin)):=by
 unfold Ci;rw [<- R.bindR_eq,<- Fast.te14044960220447912780,<- Fast.te15418851999007992765];rfl
section
variable {E:En}{V:Heap}{U:Nat}{d:Drawn}{os:OsState}
theorem dY {Γ : Ctx} {body : List Stmt} {env : Env} {R : Result -> Shared -> Prop} {p : Pos} {s : Shared} (aF : Γ.code = .func body env)
    (h : wp (Mo E) Γ (execs body env) (fun f _ s' => R (.ok (.ret (match f with | .ret v => v | _ => .none))) s') (fun e p s' => wp (Mo E) Γ (leaving env e) (fun _ _ gr => R (.error e) gr) (fun e' _ gr => R (.error e') gr) p s') p s) : wpCode (Mo E) Γ R p s := by
  refine (wpCode_iff_wp _ _ _ _ _).mpr ?_
  rw [aF]
  show wp (Mo E) Γ (do point; match <- (execs body env).onRaise (leaving env) with | .ret v => ret v | _ => ret .none) _ _ _ _
  rw [Sem.wp_bind', Sem.wp_cmd_point, Sem.wp_bind', Sem.wp_onRaise]
  refine Sem.wp_mono _ _ _ (fun f p' s' h => ?_) (fun e p' s' h => h) _ _ h
  cases f <;> exact h
theorem oT {M:Model}{Γ:Ctx}{b:List Stmt}{hs:List ExceptHandler}{pos:Pos}{env:Env}{Q:Flow->Pos->Shared->Prop}{X:Value->Pos->Shared->Prop}{p:Pos}{s:Shared}(bx:hs.isEmpty=false)
  (h:∀ p,wp M Γ (execs b env) Q (fun e p s=>wp M Γ (noteFrame e env) (fun _ p s=>wp M Γ (setFlight e none>>=fun _=>handleBy e env hs) Q X p s) X p s) p s):wp M Γ (exec (.Try b hs [] [] pos) env) Q X p s:=by
 rw [arm_exec_Try,Sem.wp_bind']
 show wp M Γ (tryStmt false (execs b env) hs (execs [] env) [] env) Q X pos s
 obtain ⟨h₁,hs,rfl⟩:∃ a l,hs=a::l:=by cases hs with | nil=>cases bx | cons a l=>exact ⟨a,l,rfl⟩
 unfold tryStmt
 simp only [List.isEmpty_nil,if_true,List.isEmpty_cons,Bool.false_and,Bool.false_eq_true,if_false]
 rw [Sem.wp_bind',Sem.wp_attempt]
 refine Sem.wp_mono _ _ _ (fun f p' s' h=>?_) (fun e p' s' h=>?_) _ _ (h _)
 ·cases f<;>exact h
 ·show wp M Γ (noteFrame e env>>=fun _=>_) _ _ _ _
  rw [Sem.wp_bind']
  refine Sem.wp_mono _ _ _ (fun _ p' s' h=>?_) (fun _ _ _ h=>h) _ _ h
  exact h
noncomputable def kr (m:Mm) (is:List Nat) (l:List Env):Prop:=∀ v∈l,v.scope.kind≠.module/\∃ i∈is,∃ a o,v.frame=some a/\Y m i=some (a,o)/\∀ vs,o.data≠.fields vs
variable {m:Mm}{n:Nat}{h:Heap}{is:List Nat}
theorem kr.fun (r:Rep E V U m n h):∀ {l:List Env},kr m is l->h.FunFrames {} l
 | [],_=>trivial
 | v::l,k=>by
  obtain ⟨h1,i,_,a,o,h2,h3,h4⟩:=k v (List.mem_cons_self ..)
  exact ⟨h1,⟨a,o,h2,rfl,r.own i a o h3,h4⟩,kr.fun r fun v hv=>k v (List.mem_cons_of_mem _ hv)⟩
theorem kr.mem {l:List Env}(k:kr m is l):∀ b∈l.filterMap (·.frame),∃ i∈is,∃ o,Y m i=some (b,o):=by
 intro b hb
 obtain ⟨v,hv,e⟩:=List.mem_filterMap.mp hb
 obtain ⟨_,i,hi,a,o,h2,h3,_⟩:=k v hv
 rw [h2] at e
 cases e
 exact ⟨i,hi,o,h3⟩
variable {A:Around}{X:Value->Shared->Prop}{env:Env}{eH:List Env}{L e t ie:Nat}{Q:Unit->Shared->Prop}{g:Array GenState}{tk:Nat}
theorem dh (r:Rep E V U m n h) (dP:A.frames=some (env::eH)) (k:kr m is (env::eH)) (hf:env.frame=some L) (he:Y m ie=some (e,bu t .none)) (qW:ie ∉ is)
  (fin:∀ f x h',Rep E V U (bh (aK (iy f is m) ie (bu t (.ref n))) (n,dg .none L (rawInt L) x)) (n+1) h'->Q () ⟨h',g,d,tk,os⟩):wpAny (Mo E) A (noteFrame (.ref e) env) Q X ⟨h,g,d,tk,os⟩:=
 qV dP (kr.fun r k) hf (r.own _ _ _ he) fun h₁ x hs=>by
  obtain ⟨f,r'⟩:=r.noted (L:=L) (hd:=.none) (x:=x) is he qW hs k.mem
  exact fin f x _ r'
theorem mO:∀ {m:Mm}{i:Nat}{a:Addr}{o:Obj},Y m i=some (a,o)->aK m i o=m
 | [],_,_,_,h=>nomatch h
 | x::m,0,a,o,h=>by cases h;rfl
 | x::m,i+1,a,o,h=>congrArg (x::·) (mO (m:=m) h)
theorem iz {iT T L':Nat}{hd:Value}{y:V6}(r:Rep E V U m n h) (dP:A.frames=some (env::eH)) (k:kr m is (env::eH)) (hf:env.frame=some L) (he:Y m ie=some (e,bu t (.ref T))) (qW:ie ∉ is) (hT:Y m iT=some (T,dg hd L' .none y))
  (fin:∀ f x h',Rep E V U (bh (aK (iy f is m) ie (bu t (.ref n))) (n,dg (.ref T) L (rawInt L) x)) (n+1) h'->Q () ⟨h',g,d,tk,os⟩):wpAny (Mo E) A (noteFrame (.ref e) env) Q X ⟨h,g,d,tk,os⟩:=by
 unfold noteFrame
 simp only [hf]
 refine wpAny_bind (wpAny_field (r.own _ _ _ he) rfl (x:=.ref T) rfl ?_)
 rw [if_pos (show (Value.ref T != Value.none)=true from by simp)]
 refine wpAny_bind (wpAny_field (r.own _ _ _ hT) rfl (x:=.none) rfl ?_)
 rw [if_neg (show ¬ ((Value.none==rawInt L)=true) from by simp [rawInt])]
 refine wpAny_bind (wpAny_setField (r.own _ _ _ hT) rfl (by show 3 < 11;decide) ?_)
 have r2:Rep E V U m n (h.update T (Obj.mapFields (·.setIfInBounds 3 .none))):=by
  have z:=(r.update (f:=Obj.mapFields (·.setIfInBounds 3 .none)) hT rfl).2
  rwa [show aK m iT (Obj.mapFields (·.setIfInBounds 3 .none) (dg hd L' .none y))=m from mO hT] at z
 refine mN (s:=⟨h.update T (Obj.mapFields (·.setIfInBounds 3 .none)),g,d,tk,os⟩) dP (kr.fun r2 k) hf (r2.own _ _ _ he) fun h₁ x hs=>?_
 obtain ⟨f,r'⟩:=r2.noted (L:=L) (hd:=.ref T) (x:=x) is he qW hs k.mem
 exact fin f x _ r'
theorem iC {iT T L':Nat}{hd fl:Value}{y:V6}(r:Rep E V U m n h) (he:Y m ie=some (e,bu t (.ref T))) (hT:Y m iT=some (T,dg hd L' fl y))
  (fin:∀ h',Rep E V U (aK m iT (dg hd L' .none y)) n h'->Q () ⟨h',g,d,tk,os⟩):wpAny (Mo E) A (setFlight (.ref e) none) Q X ⟨h,g,d,tk,os⟩:=
 wpAny_setFlight_none (r.own _ _ _ he) rfl rfl (r.own _ _ _ hT) rfl (by show 3 < 11;decide) (fin _ (r.update (f:=Obj.mapFields (·.setIfInBounds 3 .none)) hT rfl).2)
theorem gB (r:Rep E V U m n h) (dP:A.frames=some (env::eH)) (k:kr m is (env::eH)) (hf:env.frame=some L) (he:Y m ie=some (e,bu t .none)) (qW:ie ∉ is)
  (fin:∀ f x h',Rep E V U (bh (aK (iy f is m) ie (bu t (.ref n))) (n,dg .none L .none x)) (n+1) h'->Q () ⟨h',g,d,tk,os⟩):wpAny (Mo E) A (leaving env (.ref e)) Q X ⟨h,g,d,tk,os⟩:=by
 refine wpAny_bind (dh r dP k hf he qW fun f x h' r'=>?_)
 have g0:Y (iy f is m) ie=some (e,bu t .none):=by rw [eY,if_neg qW];exact he
 have lt:=dU _ _ _ g0
 have g1:Y (bh (aK (iy f is m) ie (bu t (.ref n))) (n,dg .none L (rawInt L) x)) ie=some (e,bu t (.ref n)):=by
  rw [av,if_neg (by rw [fE];exact Nat.ne_of_lt lt),bN,if_pos rfl,g0];rfl
 have g2:Y (bh (aK (iy f is m) ie (bu t (.ref n))) (n,dg .none L (rawInt L) x)) (ah (iy f is m))=some (n,dg .none L (rawInt L) x):=by
  rw [av,if_pos (by rw [fE])]
 refine iC r' g1 g2 fun h2 r2=>fin f x h2 ?_
 have e2:∀ {m:Mm}{y:Addr×Obj}{o:Obj}{k:Nat},k=ah m->aK (bh m y) k o=bh m (y.1,o):=by
  intro m
  induction m with
  | nil=>intro y o k hk;subst hk;rfl
  | cons z m ih=>intro y o k hk;subst hk;exact congrArg (z::·) (ih rfl)
 rw [e2 (by rw [fE])] at r2
 exact r2
theorem gC {iT T:Nat}{hd:Value}{y:V6}(r:Rep E V U m n h) (hf:env.frame=some L) (he:Y m ie=some (e,bu t (.ref T))) (hT:Y m iT=some (T,dg hd L (rawInt L) y))
  (fin:∀ h',Rep E V U (aK m iT (dg hd L .none y)) n h'->Q () ⟨h',g,d,tk,os⟩):wpAny (Mo E) A (leaving env (.ref e)) Q X ⟨h,g,d,tk,os⟩:=
 wpAny_bind (kV hf (r.own _ _ _ he) (r.own _ _ _ hT) (iC r he hT fin))
theorem cV {M : Model} {s : Shared} {T : Nat} {hd : Value} {y : V6} (hf : env.frame = some L) (he : s.heap.get? e = some (bu t (.ref T))) (hT : s.heap.get? T = some (dg hd L (rawInt L) y)) (h : Q () s) :
    wpAny M A (do noteFrame (.ref e) env; theTreesLotGoes (.ref e)) Q X s :=
  wpAny_bind (kV hf he hT (wpAny_theTreesLotGoes h))
end
theorem t9 {M:Model}{Γ:Ctx}{α:Type}{t:Sem α}{Q:α->Shared->Prop}{X:Value->Shared->Prop}{s:Shared}(h:wpAny M (jN Γ) t Q X s) (p:Pos):wp M Γ t (fun a _ s'=>Q a s') (fun e _ s'=>X e s') p s:=h Γ p (t8 Γ)
noncomputable def C9:Result->Sem Fin
 | .ok f=>.pure (.done f)
 | .error e=>.raise e
theorem ju:∀ (l:List (Code×Pos)),l=(l.map (·.1)).zip (l.map (·.2))
 | []=>rfl
 | x::l=>congrArg (x::·) (ju l)
section
variable {E:En}{d:Drawn}{os:OsState}
noncomputable def ay.subB (X:Type) (x0:X) (code:Code) (hd:Option Value) (bs:List Code) (is:List Nat) (bm:Mm) (nd:is.Nodup) (hl:ah bm=is.length) (out:X->Result) (m':X->Mm) (n' a8:X->Nat) (says:X->Prop)
  (same:∀ x,((m' x).take is.length).map (·.1)=bm.map (·.1))
  (H:∀ (ps:List Pos) (h:Heap) (g:Array GenState) (p:Pos) (n tk:Nat) (Q:Result->Shared->Prop),ps.length=bs.length->E.G g->Rep E h is.length bm n h->
   (∀ x,says x->∀ h' g',E.G g'->Rep E h is.length (m' x) (n' x) h'->Q (out x) ⟨h',g',d,a8 x,os⟩)->wpCode (Mo E) ⟨code,hd,hd,bs.zip ps,none⟩ Q p ⟨h,g,d,tk,os⟩):ay E d os where
 X:=X
 x0:=x0
 L:=_
 look q:=(q.code,is.map (Y q.m),q.Γ.handled,q.Γ.own,q.Γ.past,q.Γ.below.map (·.1))
 v:=(code,bm.map some,hd,hd,none,bs)
 ans x q:=⟨C9 (out x),q.p,eC q.m is (m' x),n' x,a8 x,[]⟩
 says:=says
 holds:=by
  intro V U hs q Q h g e hc hg hr kk
  simp only [Prod.mk.injEq] at e
  obtain ⟨e1,e2,e3,e4,e5,e6⟩:=e
  have es:=eD e2
  have f8:ah (aZ q.m is)=is.length:=by rw [es];exact hl
  have dK:=hr.sub is (aE f8) nd
  rw [es] at dK
  have e7:q.Γ=⟨code,hd,hd,bs.zip (q.Γ.below.map (·.2)),none⟩:=by
   have z:=ju q.Γ.below
   rw [e6] at z
   have c:=hc.trans e1
   generalize q.Γ.below.map (·.2)=l at z
   generalize q.Γ=Γ at c e3 e4 e5 z
   obtain ⟨a,b,c',l',f⟩:=Γ
   dsimp only at c e3 e4 e5 z
   subst c e3 e4 e5 z
   rfl
  have z:=H (q.Γ.below.map (·.2)) h g q.p q.n q.tk Q (by rw [List.length_map,<- e6,List.length_map]) hg dK fun x sx h' g' bn bS=>by
   have k:=kk x sx h' g' bn (hr.join' is nd f8 bS (by rw [es];exact same x))
   dsimp only at k
   cases q:out x with
   | ok f=>rw [q] at k;exact k
   | error e=>rw [q] at k;exact k
  rw [<- e7] at z
  exact z
end
theorem ua {ps:List Pos}{D:List Pos->Prop}(h:ps.length=6) (k:∀ a b c d e f,D [a,b,c,d,e,f]):D ps:=by
 match ps,h with
 | [a,b,c,d,e,f],_=>exact k a b c d e f
theorem nR {ps:List Pos}{D:List Pos->Prop}(h:ps.length=5) (k:∀ a b c d e,D [a,b,c,d,e]):D ps:=by
 match ps,h with
 | [a,b,c,d,e],_=>exact k a b c d e
noncomputable def mP:Stmt->List Stmt | .Try b _ _ _ _=>b | _=>[]
noncomputable def ku:Stmt->List ExceptHandler | .Try _ h _ _ _=>h | _=>[]
noncomputable def ED:Stmt->Pos | .Try _ _ _ _ p=>p | _=>default
noncomputable def Ho:List ExceptHandler->List Stmt | .ExceptHandler _ _ b _::_=>b | _=>[]
noncomputable def Hp:List ExceptHandler->Pos | .ExceptHandler _ _ _ p::_=>p | _=>default
theorem nS (w:World):bU (fdOf w 664)=[.Try (mP (au w 664 0)) (ku (au w 664 0)) [] [] (ED (au w 664 0))]:=by kernel_rfl
theorem qX (w:World):(ku (au w 664 0)).isEmpty=false:=by kernel_rfl
noncomputable def fD (w:World) (i:Nat):Stmt:=(Cb (au w 717 1)).getD i (.Pass ⟨0,0,0,0⟩)
theorem sO (w:World):fD w 1=.Try (mP (fD w 1)) (ku (fD w 1)) [] [] (ED (fD w 1)):=by kernel_rfl
theorem vI (w:World):(ku (fD w 1)).isEmpty=false:=by kernel_rfl
noncomputable def sP:Str:=sZ 0x7372657474656c
noncomputable def bI:Str:=sZ 0x74736f6d
noncomputable def cP:Str:=sZ 0x7466656c
noncomputable def ak:Str:=sZ 0x68746170
noncomputable def aQ:Str:=sZ 0x706f74
noncomputable def al:Str:=sZ 0x657669746361
noncomputable def aG:Str:=sZ 0x65726f6d
noncomputable def aN:Str:=sZ 0x6d657469
noncomputable def i6:Str:=sZ 0x7469
noncomputable def bJ (w:World) (l:Nat):Env:={envOf w 1112 (l+1109) with cells:=[(sP,l+1110)]}
noncomputable def aC (w:World) (a b:Nat):List Stmt:=((bU (fdOf w 1112)).drop a).take b
noncomputable abbrev bK (w:World) (l:Nat):FN:=(bU (fdOf w 1112),bJ w l)
noncomputable abbrev dS (w:World) (f:Nat):FN:=(bU (fdOf w 717),envOf w 717 (f+1109))
noncomputable abbrev gc (w:World) (f:Nat):FN:=(bU (fdOf w 664),envOf w 664 (f+1109))
noncomputable abbrev zv (w:World) (f:Nat):FN:=(bU (fdOf w 806),envOf w 806 (f+1109))
noncomputable abbrev zw (w:World) (f:Nat):FN:=(bU (fdOf w 755),envOf w 755 (f+1109))
noncomputable abbrev bQ (w:World) (f:Nat):Code:=g6 (au w 717 1) (envOf w 717 (f+1109))
noncomputable def dm (w:World) (l:Nat) (p4:Pos):Ctx:=⟨fn (bK w l),none,none,[(CC,p4)],none⟩
noncomputable def oU (v:Value):Sem Fin:=R.bindR (Fast.tw9404975358583537561 v) fun o=>match o with
 | some v=>.pure (.done (.ret v))
 | none=>.pure (.done .next)
noncomputable def ub (v:Value):Sem Fin:=R.bindR (Fast.tw8711993805878244202 v) fun v=>.pure (.done (.ret v))
noncomputable def uc (v:Value):Sem Fin:=R.bindR (Fast.tw15112759502256325868 v) fun b=>.pure (.done (.ret (.bool b)))
noncomputable def dC (cd:Nat) (zx EE:Value):Obj:=⟨.ref 721,some (cd+1109),.plain,#[some zx,some EE]⟩
noncomputable def cW (sd it:Nat):Obj:=⟨.ref 810,some (sd+1109),.plain,#[some (.ref 773),some (.ref (it+1109))]⟩
noncomputable def gD (rd:Nat) (c:Int) (tc:Nat) (el:Int) (te:Nat):Obj:=⟨.ref 773,some (rd+1109),.plain,#[some (.int c tc),some (.int el te)]⟩
noncomputable def aj (es:Array DictEntry) (ep:Nat) (sl:Array (Option Value)):Obj:=⟨.type "frame",none,.dict es ep,sl⟩
noncomputable abbrev bl:=Array (Option Value)
section
variable {a da e0 ep f1 f2 f3 i it j k0 l r rd sd sm tc te tk:Nat}{b1 b2:Bool}{c0 o ok ov:Value}{d:Drawn}{el:Int}{es:Array DictEntry}{p1 p2 p3 p4 p5 p6 p7 p8:Pos}{w:World}
theorem Hq {os:OsState}{fl:Value}{b0:Args}(hx:es.size<=i):
  Qw w b1 b2 d os fun W=>⟨E2 W,5,⟨(fn (zv W f3)),none,none,[(.builtin "next" ⟨[.ref (sm+1109)],[]⟩,p1),(fn (gc W f2),p2),(bQ W f1,p3),(fn (dS W f1),p4),(.builtin "list.extend.loop" b0,p5),(.builtin "type.__call__" ⟨[.type "list",c0],[]⟩,p6),(fn (bK W l),p7),(CC,p8)],none⟩,d9 (bU (fdOf W 806)) (envOf W 806 (f3+1109)),[(f3+1109,aL [aa W aY k0 (.ref (sm+1109))] e0),(sm+1109,cW sd it),(sd+1109,aA),(it+1109,aJ o fl (a+1109) i es.size ep ok ov),(a+1109,cnt (da+1109) es ep)],j+1109,tk,.c (Hk 3 4 (it+1109) (a+1109) i es.size ep o fl ok ov (cnt (da+1109) es ep) es rfl rfl hx) fun x1=>.e (.e (.raise (.ref (j+1110))) [(f3+1109,(aL [aa W aY k0 (.ref (sm+1109))] e0)),(sm+1109,(cW sd it)),(sd+1109,(aA)),(it+1109,(x1)),(a+1109,(cnt (da+1109) es ep)),(j+1110,(kK (j+1109)))] (j+1111) (tk+1))⟩:=bE 112 (Hx 0x1140440020200000020000000000000200002100) [[]] [6] 112 (Hx 0x1140440020200000020000000000000200002100) [[]] [6] (by kernel_rfl)
theorem Hr {os:OsState}{b0:Args}:
  Qw w b1 b2 d os fun W=>⟨E2 W,3,⟨(fn (zw W f3)),none,none,[(.builtin "next" ⟨[.ref (r+1109)],[]⟩,p1),(fn (gc W f2),p2),(bQ W f1,p3),(fn (dS W f1),p4),(.builtin "list.extend.loop" b0,p5),(.builtin "type.__call__" ⟨[.type "list",c0],[]⟩,p6),(fn (bK W l),p7),(CC,p8)],none⟩,d9 (bU (fdOf W 755)) (envOf W 755 (f3+1109)),[(f3+1109,aL [aa W aY k0 (.ref (r+1109))] e0),(r+1109,gD rd 0 tc el te),(rd+1109,aA)],j+1109,tk,.e (.e (.raise (.ref (j+1110))) [(f3+1109,(aL [aa W aY k0 (.ref (r+1109))] e0)),(r+1109,(gD rd 0 tc el te)),(rd+1109,(aA)),(j+1110,⟨(.type "StopIteration"),none,.fields #[(.ref (j+1111)),.none,.none,.none,(.bool false),.none],#[]⟩)] (j+1112) (tk+2))⟩:=bE 146 (Hx 0x150005555555555005505500000000202000000200000000000002000021) [] [4] 146 (Hx 0x150005555555555005505500000000202000000200000000000002000021) [] [4] (by kernel_rfl)
end
theorem zy {ps:List Pos}{D:List Pos->Prop}(h:ps.length=8) (k:∀ a b c d e f g i,D [a,b,c,d,e,f,g,i]):D ps:=by
 match ps,h with
 | [a,b,c,d,e,f,g,i],_=>exact k a b c d e f g i
section
variable {E:En}{V:Heap}{U:Nat}{d:Drawn}{os:OsState}
noncomputable def Ck (Q:Flow->Pos->Shared->Prop) (X:Value->Pos->Shared->Prop):Result->Shared->Prop
 | .ok f,s=>∀ p,Q f p s
 | .error e,s=>∀ p,X e p s
theorem fc {Γ:Ctx}{env:Env}{l:List Stmt}{Q:Flow->Pos->Shared->Prop}{X:Value->Pos->Shared->Prop}{p:Pos}{m:Mm}{n tk:Nat}{h:Heap}{g:Array GenState}(hg:E.G g) (hr:Rep E V U m n h)
  (w:Well E V U (Ck Q X) d os ⟨Γ,p,[],d9 l env,m,n,tk⟩):wp (Mo E) Γ (execs l env) Q X p ⟨h,g,d,tk,os⟩:=by
 have z:=w h g hg hr
 rw [cO] at z
 rw [ts,Sem.wp_bind'] at z
 exact Sem.wp_mono _ _ _ (fun f p' s' h=>h p') (fun e p' s' h=>h p') _ _ z
end
theorem zz (w:World) (l:Nat):(envOf w 806 l).scope.kind≠.module/\(envOf w 806 l).frame=some l:=⟨fun e=>(nomatch (show ScopeKind.function=.module from (show (envOf w 806 l).scope.kind=.function by kernel_rfl).symm.trans e)),rfl⟩
theorem zA (w:World) (l:Nat):(envOf w 755 l).scope.kind≠.module/\(envOf w 755 l).frame=some l:=⟨fun e=>(nomatch (show ScopeKind.function=.module from (show (envOf w 755 l).scope.kind=.function by kernel_rfl).symm.trans e)),rfl⟩
theorem jO (w:World) (l:Nat):(envOf w 664 l).scope.kind≠.module/\(envOf w 664 l).frame=some l:=⟨fun e=>(nomatch (show ScopeKind.function=.module from (show (envOf w 664 l).scope.kind=.function by kernel_rfl).symm.trans e)),rfl⟩
theorem cv (w:World) (l:Nat):(envOf w 717 l).scope.kind≠.module/\(envOf w 717 l).frame=some l:=⟨fun e=>(nomatch (show ScopeKind.function=.module from (show (envOf w 717 l).scope.kind=.function by kernel_rfl).symm.trans e)),rfl⟩
theorem fh (w:World) (l:Nat):(bJ w l).scope.kind≠.module/\(bJ w l).frame=some (l+1109):=⟨fun e=>(nomatch (show ScopeKind.function=.module from (show (bJ w l).scope.kind=.function by kernel_rfl).symm.trans e)),rfl⟩
theorem fj {m:Mm}{is:List Nat}:kr m is []:=fun _ h=>nomatch h
theorem aX {m:Mm}{is:List Nat}{v:Env}{l:List Env}{a:Nat}(i:Nat) {es:Array DictEntry}{ep:Nat}{sl:Array (Option Value)}(hv:v.scope.kind≠.module/\v.frame=some a) (hm:Y m i=some (a,aj es ep sl)) (hi:i∈is) (k:kr m is l):kr m is (v::l):=fun v' h=>by
 rcases List.mem_cons.mp h with rfl | h
 ·exact ⟨hv.1,i,hi,a,_,hv.2,hm,fun vs z=>nomatch z⟩
 ·exact k v' h
structure ef where
 j:Nat
 tk:Nat
 f:Nat->Array (Option Value)
 x:V6
 o:Obj
section
variable {d:Drawn}{os:OsState}{w:World}{b1 b2:Bool}
noncomputable abbrev kW (x:Nat):Code:=.builtin "next" ⟨[.ref (x+1109)],[]⟩
noncomputable abbrev ic (W:World) (f1 l:Nat) (b0:Args) (c0:Value):List Code:=[bQ W f1,fn (dS W f1),.builtin "list.extend.loop" b0,.builtin "type.__call__" ⟨[.type "list",c0],[]⟩,fn (bK W l),CC]
noncomputable abbrev Ay:=fun a b=>envOf a 717 (b+1109)
theorem mQ (w:World) (b1 b2:Bool) (c:Code) (f1 f2 l sm:Nat) (v:Env) (b0:Args) (c0:Value) (ps:List Pos) (hp:ps.length=8) (hc:c.envs=[v]):
  (jN ⟨c,none,none,(kW sm::fn (gc (W2 w b1 b2) f2)::ic (W2 w b1 b2) f1 l b0 c0).zip ps,none⟩).frames=some (v::[envOf (W2 w b1 b2) 664 (f2+1109),Ay (W2 w b1 b2) f1,bJ (W2 w b1 b2) l]):=by
 refine zy (D:=fun ps=>(jN ⟨c,none,none,(kW sm::fn (gc (W2 w b1 b2) f2)::ic (W2 w b1 b2) f1 l b0 c0).zip ps,none⟩).frames=_) hp fun a b e f g h i j=>?_
 show some (c.envs++_)=_
 rw [hc]
 rfl
noncomputable def Hs (f1 f2 f3 l sm sd it a da ep i k0 e0 e1 e2 e3:Nat) (s1 s2 s3:Array (Option Value)) (q1 q2 q3:Array DictEntry) (o fl ok ov:Value) (es:Array DictEntry) (b0:Args) (c0:Value) (hx:es.size<=i) (is:List Nat) (nd:is.Nodup) (hl:8=is.length):ay (E2 (W2 w b1 b2)) d os:=
 ay.subB ef ⟨0,0,fun _=>#[],⟨.none,.none,.none,.none,.none,.none⟩,fy⟩ (fn (zv (W2 w b1 b2) f3)) none (kW sm::fn (gc (W2 w b1 b2) f2)::ic (W2 w b1 b2) f1 l b0 c0) is
  [(f3+1109,aL [aa (W2 w b1 b2) aY k0 (.ref (sm+1109))] e0),(f2+1109,aj q2 e2 s2),(f1+1109,aj q1 e1 s1),(l+1109,aj q3 e3 s3),(sm+1109,cW sd it),(sd+1109,aA),(it+1109,aJ o fl (a+1109) i es.size ep ok ov),(a+1109,cnt (da+1109) es ep)]
  nd hl (fun x=>.error (.ref (x.j+1110)))
  (fun x=>[(f3+1109,aj #[aa (W2 w b1 b2) aY k0 (.ref (sm+1109))] e0 (x.f 0)),(f2+1109,aj q2 e2 (x.f 1)),(f1+1109,aj q1 e1 (x.f 2)),(l+1109,aj q3 e3 (x.f 3)),(sm+1109,cW sd it),(sd+1109,aA),(it+1109,x.o),(a+1109,cnt (da+1109) es ep),(x.j+1110,bu (x.j+1109) (.ref (x.j+1111))),(x.j+1111,dg .none (f3+1109) .none x.x)])
  (fun x=>x.j+1112) (fun x=>x.tk) (fun _=>True) (fun x=>by rw [<- hl];rfl) (by
   intro ps h g p n tk Q eZ hg hr k
   obtain ⟨j,rfl⟩:=bY (i:=0) hr rfl
   have dP:=mQ w b1 b2 (fn (zv (W2 w b1 b2) f3)) f1 f2 l sm (envOf (W2 w b1 b2) 806 (f3+1109)) b0 c0 ps eZ rfl
   revert dP
   refine zy (D:=fun ps=>(jN ⟨fn (zv (W2 w b1 b2) f3),none,none,(kW sm::fn (gc (W2 w b1 b2) f2)::ic (W2 w b1 b2) f1 l b0 c0).zip ps,none⟩).frames=_->wpCode (Mo (E2 (W2 w b1 b2))) ⟨fn (zv (W2 w b1 b2) f3),none,none,(kW sm::fn (gc (W2 w b1 b2) f2)::ic (W2 w b1 b2) f1 l b0 c0).zip ps,none⟩ Q p ⟨h,g,d,tk,os⟩) eZ fun p1 p2 p3 p4 p5 p6 p7 p8 dP=>?_
   refine dY rfl (fc hg hr ?_)
   refine Well.sub [0,4,5,6,7] rfl (by decide) rfl fun h1 cm=>?_
   refine Hq hx p (Nat.le_refl _) fun x1 _ pp h2 g2 ag ac=>?_
   have aV:=cm.join' [0,4,5,6,7] (by decide) rfl ac rfl
   refine fun p'=>t9 ?_ p'
   refine gB (is:=[0,1,2,3]) (ie:=8) (t:=j+1109) aV dP ?_ rfl rfl (by decide) fun f x h3 bC=>?_
   ·exact aX 0 (zz _ _) rfl (by decide) (aX 1 (jO _ _) rfl (by decide) (aX 2 (cv _ _) rfl (by decide) (aX 3 (fh _ _) rfl (by decide) fj)))
   ·exact k ⟨j,tk+1,f,x,x1⟩ trivial h3 g2 ag (bC.pick [0,1,2,3,4,5,6,7,8,9] 8 (by decide) (by decide) (by rw [<- hl];exact Nat.le_refl _) rfl))
noncomputable def Ht (f1 f2 f3 l r rd tc te k0 e0 e1 e2 e3:Nat) (el:Int) (s1 s2 s3:Array (Option Value)) (q1 q2 q3:Array DictEntry) (b0:Args) (c0:Value) (is:List Nat) (nd:is.Nodup) (hl:6=is.length):ay (E2 (W2 w b1 b2)) d os:=
 ay.subB ef ⟨0,0,fun _=>#[],⟨.none,.none,.none,.none,.none,.none⟩,fy⟩ (fn (zw (W2 w b1 b2) f3)) none (kW r::fn (gc (W2 w b1 b2) f2)::ic (W2 w b1 b2) f1 l b0 c0) is
  [(f3+1109,aL [aa (W2 w b1 b2) aY k0 (.ref (r+1109))] e0),(f2+1109,aj q2 e2 s2),(f1+1109,aj q1 e1 s1),(l+1109,aj q3 e3 s3),(r+1109,gD rd 0 tc el te),(rd+1109,aA)]
  nd hl (fun x=>.error (.ref (x.j+1110)))
  (fun x=>[(f3+1109,aj #[aa (W2 w b1 b2) aY k0 (.ref (r+1109))] e0 (x.f 0)),(f2+1109,aj q2 e2 (x.f 1)),(f1+1109,aj q1 e1 (x.f 2)),(l+1109,aj q3 e3 (x.f 3)),(r+1109,gD rd 0 tc el te),(rd+1109,aA),(x.j+1110,bu (x.j+1111) (.ref (x.j+1112))),(x.j+1112,dg .none (f3+1109) .none x.x)])
  (fun x=>x.j+1113) (fun x=>x.tk) (fun _=>True) (fun x=>by rw [<- hl];rfl) (by
   intro ps h g p n tk Q eZ hg hr k
   obtain ⟨j,rfl⟩:=bY (i:=0) hr rfl
   have dP:=mQ w b1 b2 (fn (zw (W2 w b1 b2) f3)) f1 f2 l r (envOf (W2 w b1 b2) 755 (f3+1109)) b0 c0 ps eZ rfl
   revert dP
   refine zy (D:=fun ps=>(jN ⟨fn (zw (W2 w b1 b2) f3),none,none,(kW r::fn (gc (W2 w b1 b2) f2)::ic (W2 w b1 b2) f1 l b0 c0).zip ps,none⟩).frames=_->wpCode (Mo (E2 (W2 w b1 b2))) ⟨fn (zw (W2 w b1 b2) f3),none,none,(kW r::fn (gc (W2 w b1 b2) f2)::ic (W2 w b1 b2) f1 l b0 c0).zip ps,none⟩ Q p ⟨h,g,d,tk,os⟩) eZ fun p1 p2 p3 p4 p5 p6 p7 p8 dP=>?_
   refine dY rfl (fc hg hr ?_)
   refine Well.sub [0,4,5] rfl (by decide) rfl fun h1 cm=>?_
   refine Hr p (Nat.le_refl _) fun pp h2 g2 ag ac=>?_
   have aV:=cm.join' [0,4,5] (by decide) rfl ac rfl
   refine fun p'=>t9 ?_ p'
   refine gB (is:=[0,1,2,3]) (ie:=6) (t:=j+1111) aV dP ?_ rfl rfl (by decide) fun f x h3 bC=>?_
   ·exact aX 0 (zA _ _) rfl (by decide) (aX 1 (jO _ _) rfl (by decide) (aX 2 (cv _ _) rfl (by decide) (aX 3 (fh _ _) rfl (by decide) fj)))
   ·exact k ⟨j,tk+2,f,x,fy⟩ trivial h3 g2 ag (bC.pick [0,1,2,3,4,5,6,7] 6 (by decide) (by decide) (by rw [<- hl];exact Nat.le_refl _) rfl))
end
section
variable {Tx a da e0 e1 e3 ep ex f1 f2 i it j k0 l r rd sd sm tc te tk tx:Nat}{b1 b2:Bool}{c0 hd o ok ov:Value}{d:Drawn}{el:Int}{es:Array DictEntry}{p1 p2 p3 p4 p5 p6:Pos}{w:World}
noncomputable abbrev Aj:=fun a b c d=>((a+1109,⟨(.ref 810),(some (b+1109)),(c),#[(some (.ref 773)),(some (Aa d))]⟩):Addr×Obj)
noncomputable abbrev AF:=fun a b=>((a+1109,((a+1109,b).snd)):Addr×Obj)
theorem Hu {os:OsState}{fl:Value}{q1 q3:Array DictEntry}{s1 s3:bl}{b0:Args}(hx:es.size<=i):
  Qb b1 b2 d os fun b1 b2=>⟨Ad w b1 b2,7,⟨(fn (gc (W2 w b1 b2) f2)),none,none,[(bQ (W2 w b1 b2) f1,p1),(fn (dS (W2 w b1 b2) f1),p2),(.builtin "list.extend.loop" b0,p3),(.builtin "type.__call__" ⟨[.type "list",c0],[]⟩,p4),(fn (bK (W2 w b1 b2) l),p5),(CC,p6)],none⟩,d9 (mP (au (W2 w b1 b2) 664 0)) (envOf (W2 w b1 b2) 664 (f2+1109)),[(f2+1109,aL [A0 w b1 b2 i6 k0 sm] e0),(f1+1109,aj q1 e1 s1),(l+1109,aj q3 e3 s3),(sm+1109,cW sd it),Ab sd,(it+1109,aJ o fl (a+1109) i es.size ep ok ov),Az a da es ep],j+1109,tk,.c (Hs f1 f2 j l sm sd it a da ep i tk 1 e1 e0 e3 s1 #[] s3 q1 #[A0 w b1 b2 i6 k0 sm] q3 o fl ok ov es b0 c0 hx [7,0,1,2,3,4,5,6] (by decide) rfl) fun x1=>.e (.e (.raise (.ref ((x1.j)+1110))) [(f2+1109,aj #[A0 w b1 b2 i6 k0 sm] e0 ((ef.f x1 1))),(f1+1109,aj q1 e1 ((ef.f x1 2))),(l+1109,aj q3 e3 ((ef.f x1 3))),Aj sm sd Data.plain it,Ab sd,AF it x1.o,Az a da es ep,((x1.j)+1110,(bu ((x1.j)+1109) (.ref ((x1.j)+1111)))),((x1.j)+1111,(dg .none (j+1109) .none (ef.x x1)))] ((x1.j)+1112) ((x1.2)))⟩:=bE 93 (Hx 0x1108800000004000400100) [[]] [8,9] 93 (Hx 0x1108800000004000400100) [[]] [8,9] (by kernel_rfl)
noncomputable abbrev A8:=fun a b c d e f=>((a+1109,⟨(.ref 773),(some (b+1109)),(c),#[(some (.int 0 d)),(some (.int e f))]⟩):Addr×Obj)
theorem Hv {os:OsState}{q1 q3:Array DictEntry}{s1 s3:bl}{b0:Args}:
  Qb b1 b2 d os fun b1 b2=>⟨Ad w b1 b2,5,⟨(fn (gc (W2 w b1 b2) f2)),none,none,[(bQ (W2 w b1 b2) f1,p1),(fn (dS (W2 w b1 b2) f1),p2),(.builtin "list.extend.loop" b0,p3),(.builtin "type.__call__" ⟨[.type "list",c0],[]⟩,p4),(fn (bK (W2 w b1 b2) l),p5),(CC,p6)],none⟩,d9 (mP (au (W2 w b1 b2) 664 0)) (envOf (W2 w b1 b2) 664 (f2+1109)),[(f2+1109,aL [A0 w b1 b2 i6 k0 r] e0),(f1+1109,aj q1 e1 s1),(l+1109,aj q3 e3 s3),(r+1109,gD rd 0 tc el te),Ab rd],j+1109,tk,.c (Ht f1 f2 j l r rd tc te tk 1 e1 e0 e3 el s1 #[] s3 q1 #[A0 w b1 b2 i6 k0 r] q3 b0 c0 [5,0,1,2,3,4] (by decide) rfl) fun x1=>.e (.e (.raise (.ref ((x1.j)+1110))) [(f2+1109,aj #[A0 w b1 b2 i6 k0 r] e0 ((ef.f x1 1))),(f1+1109,aj q1 e1 ((ef.f x1 2))),(l+1109,aj q3 e3 ((ef.f x1 3))),A8 r rd Data.plain tc el te,Ab rd,((x1.j)+1110,(bu ((x1.j)+1111) (.ref ((x1.j)+1112)))),((x1.j)+1112,(dg .none (j+1109) .none (ef.x x1)))] ((x1.j)+1113) ((x1.2)))⟩:=bE 93 (Hx 0x1106600000004000400100) [[]] [6,7] 93 (Hx 0x1106600000004000400100) [[]] [6,7] (by kernel_rfl)
theorem Da {os:OsState}{fl:Value}{xx:V6}{q2:Array DictEntry}{s2:bl}{b0:Args}:
  Qw w b1 b2 d os fun W=>⟨E2 W,3,⟨(fn (gc W f2)),none,none,[(bQ W f1,p1),(fn (dS W f1),p2),(.builtin "list.extend.loop" b0,p3),(.builtin "type.__call__" ⟨[.type "list",c0],[]⟩,p4),(fn (bK W l),p5),(CC,p6)],none⟩,zu (Aa ex) (envOf W 664 (f2+1109)) (ku (au W 664 0)),[(f2+1109,aj q2 e0 s2),(ex+1109,bu (tx+1109) (Aa Tx)),(Tx+1109,dg hd (f2+1109) fl xx)],j+1109,tk,.e (.e (.done (.ret (Aa j))) [(f2+1109,(aj q2 e0 s2)),(ex+1109,(bu (tx+1109) (Aa Tx))),(Tx+1109,⟨(.type "traceback"),none,.fields #[hd,(Aa f2),.none,.none,.none,(V6.a xx),(V6.b xx),(V6.c xx),(V6.d xx),(V6.e xx),(V6.f xx)],#[]⟩),(j+1109,⟨(.type "tuple"),none,.seq #[(.bool false),.none] 0,#[]⟩)] (j+1110) tk)⟩:=bE 81 [2,3,3,0,0,0,2,0,2,3,3] [] [3] 81 [2,3,3,0,0,0,2,0,2,3,3] [] [3] (by kernel_rfl)
end
theorem ud {M:Model}{Γ:Ctx}{body:List Stmt}{st:Stmt}{env:Env}{Q:Flow->Pos->Shared->Prop}{X:Value->Pos->Shared->Prop}{p:Pos}{s:Shared}(hb:body=[st]) (h:wp M Γ (exec st env) Q X p s):wp M Γ (execs body env) Q X p s:=by
 subst hb
 show wp M Γ (exec st env>>=fun f=>match f with | .next=>execs [] env | f=>pure f) Q X p s
 rw [Sem.wp_bind']
 refine Sem.wp_mono M Γ _ (fun f p' s' h=>?_) (fun _ _ _ h=>h) _ _ h
 cases f<;>exact h
theorem dG {M:Model}{Γ:Ctx}{α:Type}{t:Sem α}{Q:α->Pos->Shared->Prop}{X:Value->Pos->Shared->Prop}{s:Shared}(h:wpAny M (jN Γ) t (fun a s'=>∀ p,Q a p s') (fun e s'=>∀ p,X e p s') s) (p:Pos):wp M Γ t Q X p s:=
 Sem.wp_mono _ _ _ (fun _ p' _ h=>h p') (fun _ p' _ h=>h p') _ _ (h Γ p (t8 Γ))
section
variable {E:En}{V:Heap}{U:Nat}{d:Drawn}{os:OsState}
theorem kx {Γ:Ctx}{env:Env}{hs:List ExceptHandler}{e:Value}{Q:Flow->Pos->Shared->Prop}{X:Value->Pos->Shared->Prop}{p:Pos}{m:Mm}{n tk:Nat}{h:Heap}{g:Array GenState}(hg:E.G g) (hr:Rep E V U m n h)
  (w:Well E V U (Ck Q X) d os ⟨Γ,p,[],zu e env hs,m,n,tk⟩):wp (Mo E) Γ (setFlight e none>>=fun _=>handleBy e env hs) Q X p ⟨h,g,d,tk,os⟩:=by
 have z:=w h g hg hr
 rw [cO] at z
 rw [Cf,Sem.wp_bind'] at z
 rw [Sem.wp_bind']
 refine Sem.wp_mono _ _ _ (fun _ p' s' h=>?_) (fun e p' s' h=>h p') _ _ z
 rw [Sem.wp_bind'] at h
 exact Sem.wp_mono _ _ _ (fun f p' s' h=>h p') (fun e p' s' h=>h p') _ _ h
end
section
variable {d:Drawn}{os:OsState}{w:World}{b1 b2:Bool}
theorem mR (w:World) (b1 b2:Bool) (c:Code) (f1 l:Nat) (v:Env) (b0:Args) (c0:Value) (ps:List Pos) (hp:ps.length=6) (hc:c.envs=[v]):
  (jN ⟨c,none,none,(ic (W2 w b1 b2) f1 l b0 c0).zip ps,none⟩).frames=some (v::[Ay (W2 w b1 b2) f1,bJ (W2 w b1 b2) l]):=by
 refine ua (D:=fun ps=>(jN ⟨c,none,none,(ic (W2 w b1 b2) f1 l b0 c0).zip ps,none⟩).frames=_) hp fun a b e f g h=>?_
 show some (c.envs++_)=_
 rw [hc]
 rfl
noncomputable def ue (f1 f2 l sm sd it a da ep i k0 e0 e1 e3:Nat) (s1 s3:Array (Option Value)) (q1 q3:Array DictEntry) (o fl ok ov:Value) (es:Array DictEntry) (b0:Args) (c0:Value) (hx:es.size<=i) (is:List Nat) (nd:is.Nodup) (hl:7=is.length):ay (E2 (W2 w b1 b2)) d os:=
 ay.subB ef ⟨0,0,fun _=>#[],⟨.none,.none,.none,.none,.none,.none⟩,fy⟩ (fn (gc (W2 w b1 b2) f2)) none (ic (W2 w b1 b2) f1 l b0 c0) is
  [(f2+1109,aL [aa (W2 w b1 b2) i6 k0 (.ref (sm+1109))] e0),(f1+1109,aj q1 e1 s1),(l+1109,aj q3 e3 s3),(sm+1109,cW sd it),(sd+1109,aA),(it+1109,aJ o fl (a+1109) i es.size ep ok ov),(a+1109,cnt (da+1109) es ep)]
  nd hl (fun x=>.ok (.ret (.ref (x.j+1109))))
  (fun x=>[(f2+1109,aj #[aa (W2 w b1 b2) i6 k0 (.ref (sm+1109))] e0 (x.f 0)),(f1+1109,aj q1 e1 (x.f 1)),(l+1109,aj q3 e3 (x.f 2)),(sm+1109,cW sd it),(sd+1109,aA),(it+1109,x.o),(a+1109,cnt (da+1109) es ep),(x.j+1109,bb (.bool false) .none)])
  (fun x=>x.j+1110) (fun x=>x.tk) (fun _=>True) (fun x=>by rw [<- hl];rfl) (by
   intro ps h g p n tk Q eZ hg hr k
   obtain ⟨j,rfl⟩:=bY (i:=0) hr rfl
   have dP:=mR w b1 b2 (fn (gc (W2 w b1 b2) f2)) f1 l (envOf (W2 w b1 b2) 664 (f2+1109)) b0 c0 ps eZ rfl
   revert dP
   refine ua (D:=fun ps=>(jN ⟨fn (gc (W2 w b1 b2) f2),none,none,(ic (W2 w b1 b2) f1 l b0 c0).zip ps,none⟩).frames=_->wpCode (Mo (E2 (W2 w b1 b2))) ⟨fn (gc (W2 w b1 b2) f2),none,none,(ic (W2 w b1 b2) f1 l b0 c0).zip ps,none⟩ Q p ⟨h,g,d,tk,os⟩) eZ fun p1 p2 p3 p4 p5 p6 dP=>?_
   show wpCode _ ⟨.func (bU (fdOf (W2 w b1 b2) 664)) (envOf (W2 w b1 b2) 664 (f2+1109)),none,none,_,none⟩ Q p _
   have pt:=nS (W2 w b1 b2)
   have pn:=qX (W2 w b1 b2)
   generalize hB:bU (fdOf (W2 w b1 b2) 664)=B at pt
   generalize hb:mP (au (W2 w b1 b2) 664 0)=b at pt
   generalize hh:ku (au (W2 w b1 b2) 664 0)=hs at pt pn
   refine dY rfl (ud pt (oT pn fun pa=>fc hg hr ?_))
   subst hb hB
   refine Hu hx pa (Nat.le_of_eq hl.symm) fun x1 _ pp h2 g2 ag ac=>?_
   refine fun p'=>dG ?_ p'
   refine iz (is:=[0,1,2]) (ie:=7) (iT:=8) ac dP (aX 0 (jO _ _) rfl (by decide) (aX 1 (cv _ _) rfl (by decide) (aX 2 (fh _ _) rfl (by decide) fj))) rfl rfl (by decide) rfl fun f x h3 aV p9=>?_
   refine kx ag aV (Well.sub [0,7,9] rfl (by decide) rfl fun h4 bC=>?_)
   subst hh
   refine Da _ (Nat.le_refl _) fun p5 h5 g5 kB cx=>?_
   have dO:=bC.join' [0,7,9] (by decide) rfl cx rfl
   exact fun _=>k ⟨x1.j+4,x1.tk,f,x,x1.o⟩ trivial h5 g5 kB (dO.pick [0,1,2,3,4,5,6,10] 7 (by decide) (by decide) (by rw [<- hl];exact Nat.le_refl _) rfl))
noncomputable def qY (f1 f2 l r rd tc te k0 e0 e1 e3:Nat) (el:Int) (s1 s3:Array (Option Value)) (q1 q3:Array DictEntry) (b0:Args) (c0:Value) (is:List Nat) (nd:is.Nodup) (hl:5=is.length):ay (E2 (W2 w b1 b2)) d os:=
 ay.subB ef ⟨0,0,fun _=>#[],⟨.none,.none,.none,.none,.none,.none⟩,fy⟩ (fn (gc (W2 w b1 b2) f2)) none (ic (W2 w b1 b2) f1 l b0 c0) is
  [(f2+1109,aL [aa (W2 w b1 b2) i6 k0 (.ref (r+1109))] e0),(f1+1109,aj q1 e1 s1),(l+1109,aj q3 e3 s3),(r+1109,gD rd 0 tc el te),(rd+1109,aA)]
  nd hl (fun x=>.ok (.ret (.ref (x.j+1109))))
  (fun x=>[(f2+1109,aj #[aa (W2 w b1 b2) i6 k0 (.ref (r+1109))] e0 (x.f 0)),(f1+1109,aj q1 e1 (x.f 1)),(l+1109,aj q3 e3 (x.f 2)),(r+1109,gD rd 0 tc el te),(rd+1109,aA),(x.j+1109,bb (.bool false) .none)])
  (fun x=>x.j+1110) (fun x=>x.tk) (fun _=>True) (fun x=>by rw [<- hl];rfl) (by
   intro ps h g p n tk Q eZ hg hr k
   obtain ⟨j,rfl⟩:=bY (i:=0) hr rfl
   have dP:=mR w b1 b2 (fn (gc (W2 w b1 b2) f2)) f1 l (envOf (W2 w b1 b2) 664 (f2+1109)) b0 c0 ps eZ rfl
   revert dP
   refine ua (D:=fun ps=>(jN ⟨fn (gc (W2 w b1 b2) f2),none,none,(ic (W2 w b1 b2) f1 l b0 c0).zip ps,none⟩).frames=_->wpCode (Mo (E2 (W2 w b1 b2))) ⟨fn (gc (W2 w b1 b2) f2),none,none,(ic (W2 w b1 b2) f1 l b0 c0).zip ps,none⟩ Q p ⟨h,g,d,tk,os⟩) eZ fun p1 p2 p3 p4 p5 p6 dP=>?_
   show wpCode _ ⟨.func (bU (fdOf (W2 w b1 b2) 664)) (envOf (W2 w b1 b2) 664 (f2+1109)),none,none,_,none⟩ Q p _
   have pt:=nS (W2 w b1 b2)
   have pn:=qX (W2 w b1 b2)
   generalize hB:bU (fdOf (W2 w b1 b2) 664)=B at pt
   generalize hb:mP (au (W2 w b1 b2) 664 0)=b at pt
   generalize hh:ku (au (W2 w b1 b2) 664 0)=hs at pt pn
   refine dY rfl (ud pt (oT pn fun pa=>fc hg hr ?_))
   subst hb hB
   refine Hv pa (Nat.le_of_eq hl.symm) fun x1 _ pp h2 g2 ag ac=>?_
   refine fun p'=>dG ?_ p'
   refine iz (is:=[0,1,2]) (ie:=5) (iT:=6) ac dP (aX 0 (jO _ _) rfl (by decide) (aX 1 (cv _ _) rfl (by decide) (aX 2 (fh _ _) rfl (by decide) fj))) rfl rfl (by decide) rfl fun f x h3 aV p9=>?_
   refine kx ag aV (Well.sub [0,5,7] rfl (by decide) rfl fun h4 bC=>?_)
   subst hh
   refine Da _ (Nat.le_refl _) fun p5 h5 g5 kB cx=>?_
   have dO:=bC.join' [0,5,7] (by decide) rfl cx rfl
   exact fun _=>k ⟨x1.j+5,x1.tk,f,x,fy⟩ trivial h5 g5 kB (dO.pick [0,1,2,3,4,8] 5 (by decide) (by decide) (by rw [<- hl];exact Nat.le_refl _) rfl))
end
section
variable {Q3 es:Array DictEntry}{a cd ch da e0 e3 ep f1 i it j k0 k1 l m0 m1 m2 m3 m4 ph r rd sd sm t1 tc te tk:Nat}{b1 b2:Bool}{c0 o ok ov:Value}{d:Drawn}{el kv vv:Int}{p1 p2 p3 p4 p5:Pos}{w:World}
noncomputable abbrev Af:=fun a=>ad #[.ref (a+1109)] 0
noncomputable abbrev Au:=fun a=>(.ref (a+1114):Value)
noncomputable abbrev A3:=fun a b c d e=>((a+1109,⟨(.ref 721),(some (b+1109)),(c),#[(some (Au d)),(some (Aa e))]⟩):Addr×Obj)
noncomputable abbrev AB:=fun a b=>((a+1109,Af b):Addr×Obj)
noncomputable abbrev AG:=fun a b=>((a+1109,(ad #[(Aa b)] 0)):Addr×Obj)
theorem EF {os:OsState}{fl:Value}{s1 s3:bl}{b0:Args}{t2:Nat}(hx:es[i]?=some ⟨hashInt kv,.int kv t1,.int vv t2⟩) (hb:decide (vv>999999)=false) (hc:decide (vv < -999999)=false) (hd:decide (vv+0 < 0)=false) (he:(vv+0==0)=false) (hf:decide (vv+0>0)=true):
  Qw w b1 b2 d os fun W=>⟨E2 W,9,⟨(bQ W f1),none,none,[(fn (dS W f1),p1),(.builtin "list.extend.loop" b0,p2),(.builtin "type.__call__" ⟨[.type "list",c0],[]⟩,p3),(fn (bK W l),p4),(CC,p5)],none⟩,den (bQ W f1),[(f1+1109,aj #[Aq W k0 ch,A1 W ak k1 ph] e0 s1),AB ph ch,(ch+1109,dC cd .none (Aa sm)),Ab cd,(sm+1109,cW sd it),Ab sd,(it+1109,aJ o fl (a+1109) i es.size ep ok ov),Az a da es ep,(l+1109,aj Q3 e3 s3)],j+1109,tk,.h (kU 6 7 (j+1111) (it+1109) (a+1109) i es.size ep o fl ok ov (Ac da es ep) es rfl rfl ⟨hashInt kv,.int kv t1,.int vv t2⟩ hx [f1+1109,ph+1109,ch+1109,cd+1109,sm+1109,sd+1109,it+1109,a+1109,l+1109] 9) fun x1=>.c (ix 11 (j+1111) (.int kv t1) (.int vv t2)) fun x2=>.u (fO vv 999999 false hb)<| .u (pA vv (-999999) false hc)<| .u (pA (vv+0) 0 false hd)<| .u (i0 "int.__eq__" F.entry_int_eq (fun a b=>a==b) (fun _ _ _ _=>rfl) (vv+0) (0) false he)<| .u (fO (vv+0) 0 true hf)<| .e (.e (.done (.ret (.int kv t1))) [(f1+1109,aj #[Aq W k0 ch,A1 W ak k1 ph,A1 W aQ (tk+2) ch,aa W aG (tk+29) (.bool true),A7 W (tk+30) (Au j),aa W al (tk+34) (Au j),aa W aN (tk+47) (.int kv t1)] (e0+5) (s1)),AG ph ch,A3 ch cd Data.plain j sm,AA cd,(sm+1109,(cW sd it)),AA sd,(it+1109,(aJ (b6.o x1) (b6.f x1) (a+1109) (i+1) (es.size) ep (b6.ok x1) (b6.ov x1))),AO a da es ep,(l+1109,(aj Q3 e3 s3)),(j+1111,(Ag kv t1 vv t2)),(j+1113,aA),(j+1114,⟨(.ref 773),(some (j+1113)),(Data.plain),#[(some (.int (vv+0 - 1) (tk+43))),(some (.int kv t1))]⟩)] (j+1129) (tk+48))⟩:=bE 1204 (Hx 0x1170770050500000050000000000000500005b0000bb00000005000500a0000aa00003030000003000000000000030000310303000000300000000000003000031303000000300000000000003000031112020222001) [(Hx 0x11cb50500000050000000000000500005b00c00b00bb),(Hx 0x11011f11f0012f12f12f0012f000012f12f000011f00011f11f11f11f11f11f000010f0010f0010f10f10f10f10f10f000000000ff00ff000000000000000000000000000000000d),[17,0,0,0,1],[16,0,0,16,16,16,0,1],(Hx 0x1100ff00ff0000000ff00000000000000ff00000ff19f0019f19f00000000ff0000ff0018f000018f18f0000100000ff0010011303000000300000000000003000031303000000300000000003030030000310000ff17f0017f17f00000000ff0000ff001001111116f14f14f13f14f14f014f014f14f14f13f14f14f014f014f14f14f13f14f14f014f014f14f013f013f13f13f0ff00ff0000000ff00000000000ff00ff000ff00000ff10f10f0ff00ff0000000ff00000000000ff00ff000ff00000ff10f10f),(Hx 0x1100ff00ff0000000ff00000000000000ff00000ff19f),(Hx 0x11111111df1bf1bf1af1bf1bf01bf01bf1bf1bf1af1bf1bf01bf01bf1bf1bf1af1bf1bf01bf01bf1bf01af01af1af1af0ff00ff0000000ff00000000000000ff00000ff19f0ff00ff0000000ff00000000000ff00ff000ff00000ff000ff00ff0000000ff00000000000000ff00000ff19f)] [11,13,14] 1204 (Hx 0x1170770050500000050000000000000500005b0000bb00000005000500a0000aa00003030000003000000000000030000310303000000300000000000003000031303000000300000000000003000031112020222001) [(Hx 0x11cb50500000050000000000000500005b00c00b00bb),(Hx 0x11011f11f0012f12f12f0012f000012f12f000011f00011f11f11f11f11f11f000010f0010f0010f10f10f10f10f10f000000000ff00ff000000000000000000000000000000000d),[17,0,0,0,1],[16,0,0,16,16,16,0,1],(Hx 0x1100ff00ff0000000ff00000000000000ff00000ff19f0019f19f00000000ff0000ff0018f000018f18f0000100000ff0010011303000000300000000000003000031303000000300000000003030030000310000ff17f0017f17f00000000ff0000ff001001111116f14f14f13f14f14f014f014f14f14f13f14f14f014f014f14f14f13f14f14f014f014f14f013f013f13f13f0ff00ff0000000ff00000000000ff00ff000ff00000ff10f10f0ff00ff0000000ff00000000000ff00ff000ff00000ff10f10f),(Hx 0x1100ff00ff0000000ff00000000000000ff00000ff19f),(Hx 0x11111111df1bf1bf1af1bf1bf01bf01bf1bf1bf1af1bf1bf01bf01bf1bf1bf1af1bf1bf01bf01bf1bf01af01af1af1af0ff00ff0000000ff00000000000000ff00000ff19f0ff00ff0000000ff00000000000ff00ff000ff00000ff000ff00ff0000000ff00000000000000ff00000ff19f)] [11,13,14] (by kernel_rfl)
noncomputable abbrev Am:=fun a=>(⟨(.type "list"),none,.seq #[(Aa a)] 0,#[]⟩:Obj)
noncomputable abbrev Av:=fun a b c d=>((a+1109,⟨(.ref 721),(some (b+1109)),(c),#[(some .none),(some (Aa d))]⟩):Addr×Obj)
noncomputable abbrev AC:=fun a b c=>(⟨(.type "tuple"),none,.seq #[(.int a b),(.int 0 c)] 0,#[]⟩:Obj)
noncomputable abbrev AJ:=fun a b c d e=>aa (W2 a b c) d e (.bool false)
noncomputable abbrev AP:=fun a b c d e=>Aq (W2 a b c) d e
noncomputable abbrev AS:=fun a b=>((a+1109,(Am b)):Addr×Obj)
theorem EG {os:OsState}{fl:Value}{s1 s3:bl}{b0:Args}{t2:Nat}(hx:es[i]?=some ⟨hashInt kv,.int kv t1,.int 0 t2⟩):
  Qb b1 b2 d os fun b1 b2=>⟨Ad w b1 b2,9,⟨(bQ (W2 w b1 b2) f1),none,none,[(fn (dS (W2 w b1 b2) f1),p1),(.builtin "list.extend.loop" b0,p2),(.builtin "type.__call__" ⟨[.type "list",c0],[]⟩,p3),(fn (bK (W2 w b1 b2) l),p4),(CC,p5)],none⟩,den (bQ (W2 w b1 b2) f1),[(f1+1109,aj #[AP w b1 b2 k0 ch,A0 w b1 b2 ak k1 ph] e0 s1),AB ph ch,(ch+1109,dC cd .none (Aa sm)),Ab cd,(sm+1109,cW sd it),Ab sd,(it+1109,aJ o fl (a+1109) i es.size ep ok ov),Az a da es ep,(l+1109,aj Q3 e3 s3)],j+1109,tk,.h (kU 6 7 (j+1111) (it+1109) (a+1109) i es.size ep o fl ok ov (Ac da es ep) es rfl rfl ⟨hashInt kv,.int kv t1,.int 0 t2⟩ hx [f1+1109,ph+1109,ch+1109,cd+1109,sm+1109,sd+1109,it+1109,a+1109,l+1109] 9) fun x1=>.c (ix 11 (j+1111) (.int kv t1) (.int 0 t2)) fun x2=>.c (qY f1 (j+14) l (j+5) (j+4) (tk+24) t1 (tk+35) 1 (e0+4) e3 kv s1 s3 #[AP w b1 b2 k0 ch,A0 w b1 b2 ak k1 ph,A0 w b1 b2 aQ (tk+2) ch,aa (W2 w b1 b2) aG (tk+29) (.bool true),A7 (W2 w b1 b2) (tk+30) (Au j),Ai w b1 b2 al (tk+34) (Au j)] Q3 b0 c0 [23,0,8,14,13] (by decide) rfl) fun x3=>.e (.e (.again (bQ (W2 w b1 b2) f1)) [(f1+1109,aj #[AP w b1 b2 k0 ch,A0 w b1 b2 ak k1 ph,A0 w b1 b2 aQ (tk+2) ch,AJ w b1 b2 aG (tk+29),A7 (W2 w b1 b2) (tk+30) (Au j),Ai w b1 b2 al (tk+34) (Au j),aa (W2 w b1 b2) aN ((x3.2)+1) .none] (e0+5) ((ef.f x3 1))),AS ph ch,Av ch cd Data.plain sm,Ab cd,Aj sm sd Data.plain it,Ab sd,(it+1109,⟨(.type "dict_itemiterator"),none,.fields #[(b6.o x1),(b6.f x1),(Aa a),(.int (↑(i+1)) 0),(.int (↑es.size) 0),(.int (↑ep) 0),(b6.ok x1),(b6.ov x1)],#[]⟩),Az a da es ep,(l+1109,aj Q3 e3 ((ef.f x3 2))),(j+1111,(AC kv t1 t2))] ((x3.j)+1113) ((x3.2)+3))⟩:=bE 997 (Hx 0x1170770050500000050000000000000500005b0000bb00000005000500a0000aa00003030000003000000000000030000310303000000300000000000003000031303000000300000000000003000031112020222001) [(Hx 0x11cb50500000050000000000000500005b00c00b00bb),(Hx 0x11018f18f0000100000ff0010011303000000300000000000003000031303000000300000000003030030000310000ff17f0017f17f00000000ff0000ff001001111116f14f14f13f14f14f014f014f14f14f13f14f14f014f014f14f14f13f14f14f014f014f14f013f013f13f13f0ff00ff0000000ff00000000000ff00ff000ff00000ff10f10f0ff00ff0000000ff00000000000ff00ff000ff00000ff10f10f0010f10f10f0010f000011f0011f11f0012f12f12f0012f000012f12f000011f00011f11f11f11f11f11f000010f0010f0010f10f10f10f10f10f000000000ff00ff000000000000000000000000000000000d),(Hx 0x130300000030000000000303003000031111111cf1af1af19f1af1af01af01af1af1af19f1af1af01af01af1af1af19f1af1af01af01af1af019f019f19f19f)] [11] 997 (Hx 0x1170770050500000050000000000000500005b0000bb00000005000500a0000aa00003030000003000000000000030000310303000000300000000000003000031303000000300000000000003000031112020222001) [(Hx 0x11cb50500000050000000000000500005b00c00b00bb),(Hx 0x11018f18f0000100000ff0010011303000000300000000000003000031303000000300000000003030030000310000ff17f0017f17f00000000ff0000ff001001111116f14f14f13f14f14f014f014f14f14f13f14f14f014f014f14f14f13f14f14f014f014f14f013f013f13f13f0ff00ff0000000ff00000000000ff00ff000ff00000ff10f10f0ff00ff0000000ff00000000000ff00ff000ff00000ff10f10f0010f10f10f0010f000011f0011f11f0012f12f12f0012f000012f12f000011f00011f11f11f11f11f11f000010f0010f0010f10f10f10f10f10f000000000ff00ff000000000000000000000000000000000d),(Hx 0x130300000030000000000303003000031111111cf1af1af19f1af1af01af01af1af1af19f1af1af01af01af1af1af19f1af1af01af01af1af019f019f19f19f)] [11] (by kernel_rfl)
theorem EH {os:OsState}{q0 q1 q2 q3 fl:Value}{s1 s3:bl}{b0:Args}{t2:Nat}(hx:es[i]?=some ⟨hashInt kv,.int kv t1,.int vv t2⟩) (hb:decide (vv>999999)=false) (hc:decide (vv < -999999)=false) (hd:decide (vv+0 < 0)=false) (he:(vv+0==0)=false) (hf:decide (vv+0>0)=true):
  Qw w b1 b2 d os fun W=>⟨E2 W,9,⟨(bQ W f1),none,none,[(fn (dS W f1),p1),(.builtin "list.extend.loop" b0,p2),(.builtin "type.__call__" ⟨[.type "list",c0],[]⟩,p3),(fn (bK W l),p4),(CC,p5)],none⟩,den (bQ W f1),[(f1+1109,aj #[Aq W k0 ch,A1 W ak k1 ph,aa W aQ m0 q0,aa W al m1 q1,aa W aG m2 q2,aa W aN m3 q3] e0 s1),AB ph ch,(ch+1109,dC cd .none (Aa sm)),Ab cd,(sm+1109,cW sd it),Ab sd,(it+1109,aJ o fl (a+1109) i es.size ep ok ov),Az a da es ep,(l+1109,aj Q3 e3 s3)],j+1109,tk,.h (kU 6 7 (j+1111) (it+1109) (a+1109) i es.size ep o fl ok ov (Ac da es ep) es rfl rfl ⟨hashInt kv,.int kv t1,.int vv t2⟩ hx [f1+1109,ph+1109,ch+1109,cd+1109,sm+1109,sd+1109,it+1109,a+1109,l+1109] 9) fun x1=>.c (ix 11 (j+1111) (.int kv t1) (.int vv t2)) fun x2=>.u (fO vv 999999 false hb)<| .u (pA vv (-999999) false hc)<| .u (pA (vv+0) 0 false hd)<| .u (i0 "int.__eq__" F.entry_int_eq (fun a b=>a==b) (fun _ _ _ _=>rfl) (vv+0) (0) false he)<| .u (fO (vv+0) 0 true hf)<| .e (.e (.done (.ret (.int kv t1))) [(f1+1109,aj #[Aq W k0 ch,A1 W ak k1 ph,A1 W aQ m0 ch,aa W al m1 (Au j),aa W aG m2 (.bool true),aa W aN m3 (.int kv t1),A7 W (tk+30) (Au j)] (e0+1) (s1)),AG ph ch,A3 ch cd Data.plain j sm,AA cd,(sm+1109,(cW sd it)),AA sd,(it+1109,(aJ (b6.o x1) (b6.f x1) (a+1109) (i+1) (es.size) ep (b6.ok x1) (b6.ov x1))),AO a da es ep,(l+1109,(aj Q3 e3 s3)),(j+1111,(Ag kv t1 vv t2)),(j+1113,aA),(j+1114,⟨(.ref 773),(some (j+1113)),(Data.plain),#[(some (.int (vv+0 - 1) (tk+43))),(some (.int kv t1))]⟩)] (j+1129) (tk+48))⟩:=bE 1204 (Hx 0x1170770050500000050000000000000500005b0000bb00000005000500a0000aa00003030000003000000000000030000310303000000300000000000003000031303000000300000000000003000031112020222001) [(Hx 0x11cb50500000050000000000000500005b00c00b00bb),(Hx 0x11011f11f0012f12f12f0012f000012f12f000011f00011f11f11f11f11f11f000010f0010f0010f10f10f10f10f10f000000000ff00ff000000000000000000000000000000000d),[17,0,0,0,1],[16,0,0,16,16,16,0,1],(Hx 0x1100ff00ff0000000ff00000000000000ff00000ff19f0019f19f00000000ff0000ff0018f000018f18f0000100000ff0010011303000000300000000000003000031303000000300000000003030030000310000ff17f0017f17f00000000ff0000ff001001111116f14f14f13f14f14f014f014f14f14f13f14f14f014f014f14f14f13f14f14f014f014f14f013f013f13f13f0ff00ff0000000ff00000000000ff00ff000ff00000ff10f10f0ff00ff0000000ff00000000000ff00ff000ff00000ff10f10f),(Hx 0x1100ff00ff0000000ff00000000000000ff00000ff19f),(Hx 0x11111111df1bf1bf1af1bf1bf01bf01bf1bf1bf1af1bf1bf01bf01bf1bf1bf1af1bf1bf01bf01bf1bf01af01af1af1af0ff00ff0000000ff00000000000000ff00000ff19f0ff00ff0000000ff00000000000ff00ff000ff00000ff000ff00ff0000000ff00000000000000ff00000ff19f)] [11,13,14] 1204 (Hx 0x1170770050500000050000000000000500005b0000bb00000005000500a0000aa00003030000003000000000000030000310303000000300000000000003000031303000000300000000000003000031112020222001) [(Hx 0x11cb50500000050000000000000500005b00c00b00bb),(Hx 0x11011f11f0012f12f12f0012f000012f12f000011f00011f11f11f11f11f11f000010f0010f0010f10f10f10f10f10f000000000ff00ff000000000000000000000000000000000d),[17,0,0,0,1],[16,0,0,16,16,16,0,1],(Hx 0x1100ff00ff0000000ff00000000000000ff00000ff19f0019f19f00000000ff0000ff0018f000018f18f0000100000ff0010011303000000300000000000003000031303000000300000000003030030000310000ff17f0017f17f00000000ff0000ff001001111116f14f14f13f14f14f014f014f14f14f13f14f14f014f014f14f14f13f14f14f014f014f14f013f013f13f13f0ff00ff0000000ff00000000000ff00ff000ff00000ff10f10f0ff00ff0000000ff00000000000ff00ff000ff00000ff10f10f),(Hx 0x1100ff00ff0000000ff00000000000000ff00000ff19f),(Hx 0x11111111df1bf1bf1af1bf1bf01bf01bf1bf1bf1af1bf1bf01bf01bf1bf1bf1af1bf1bf01bf01bf1bf01af01af1af1af0ff00ff0000000ff00000000000000ff00000ff19f0ff00ff0000000ff00000000000ff00ff000ff00000ff000ff00ff0000000ff00000000000000ff00000ff19f)] [11,13,14] (by kernel_rfl)
theorem EI {os:OsState}{q0 q1 q2 q3 fl:Value}{s1 s3:bl}{b0:Args}{t2:Nat}(hx:es[i]?=some ⟨hashInt kv,.int kv t1,.int 0 t2⟩):
  Qb b1 b2 d os fun b1 b2=>⟨Ad w b1 b2,9,⟨(bQ (W2 w b1 b2) f1),none,none,[(fn (dS (W2 w b1 b2) f1),p1),(.builtin "list.extend.loop" b0,p2),(.builtin "type.__call__" ⟨[.type "list",c0],[]⟩,p3),(fn (bK (W2 w b1 b2) l),p4),(CC,p5)],none⟩,den (bQ (W2 w b1 b2) f1),[(f1+1109,aj #[AP w b1 b2 k0 ch,A0 w b1 b2 ak k1 ph,Ai w b1 b2 aQ m0 q0,Ai w b1 b2 al m1 q1,Ai w b1 b2 aG m2 q2,Ai w b1 b2 aN m3 q3] e0 s1),AB ph ch,(ch+1109,dC cd .none (Aa sm)),Ab cd,(sm+1109,cW sd it),Ab sd,(it+1109,aJ o fl (a+1109) i es.size ep ok ov),Az a da es ep,(l+1109,aj Q3 e3 s3)],j+1109,tk,.h (kU 6 7 (j+1111) (it+1109) (a+1109) i es.size ep o fl ok ov (Ac da es ep) es rfl rfl ⟨hashInt kv,.int kv t1,.int 0 t2⟩ hx [f1+1109,ph+1109,ch+1109,cd+1109,sm+1109,sd+1109,it+1109,a+1109,l+1109] 9) fun x1=>.c (ix 11 (j+1111) (.int kv t1) (.int 0 t2)) fun x2=>.c (qY f1 (j+14) l (j+5) (j+4) (tk+24) t1 (tk+35) 1 (e0+1) e3 kv s1 s3 #[AP w b1 b2 k0 ch,A0 w b1 b2 ak k1 ph,A0 w b1 b2 aQ m0 ch,Ai w b1 b2 al m1 (Au j),aa (W2 w b1 b2) aG m2 (.bool true),Ai w b1 b2 aN m3 q3,A7 (W2 w b1 b2) (tk+30) (Au j)] Q3 b0 c0 [23,0,8,14,13] (by decide) rfl) fun x3=>.e (.e (.again (bQ (W2 w b1 b2) f1)) [(f1+1109,aj #[AP w b1 b2 k0 ch,A0 w b1 b2 ak k1 ph,A0 w b1 b2 aQ m0 ch,Ai w b1 b2 al m1 (Au j),AJ w b1 b2 aG m2,aa (W2 w b1 b2) aN m3 .none,A7 (W2 w b1 b2) (tk+30) (Au j)] (e0+1) ((ef.f x3 1))),AS ph ch,Av ch cd Data.plain sm,Ab cd,Aj sm sd Data.plain it,Ab sd,(it+1109,⟨(.type "dict_itemiterator"),none,.fields #[(b6.o x1),(b6.f x1),(Aa a),(.int (↑(i+1)) 0),(.int (↑es.size) 0),(.int (↑ep) 0),(b6.ok x1),(b6.ov x1)],#[]⟩),Az a da es ep,(l+1109,aj Q3 e3 ((ef.f x3 2))),(j+1111,(AC kv t1 t2))] ((x3.j)+1113) ((x3.2)+3))⟩:=bE 997 (Hx 0x1170770050500000050000000000000500005b0000bb00000005000500a0000aa00003030000003000000000000030000310303000000300000000000003000031303000000300000000000003000031112020222001) [(Hx 0x11cb50500000050000000000000500005b00c00b00bb),(Hx 0x11018f18f0000100000ff0010011303000000300000000000003000031303000000300000000003030030000310000ff17f0017f17f00000000ff0000ff001001111116f14f14f13f14f14f014f014f14f14f13f14f14f014f014f14f14f13f14f14f014f014f14f013f013f13f13f0ff00ff0000000ff00000000000ff00ff000ff00000ff10f10f0ff00ff0000000ff00000000000ff00ff000ff00000ff10f10f0010f10f10f0010f000011f0011f11f0012f12f12f0012f000012f12f000011f00011f11f11f11f11f11f000010f0010f0010f10f10f10f10f10f000000000ff00ff000000000000000000000000000000000d),(Hx 0x130300000030000000000303003000031111111cf1af1af19f1af1af01af01af1af1af19f1af1af01af01af1af1af19f1af1af01af01af1af019f019f19f19f)] [11] 997 (Hx 0x1170770050500000050000000000000500005b0000bb00000005000500a0000aa00003030000003000000000000030000310303000000300000000000003000031303000000300000000000003000031112020222001) [(Hx 0x11cb50500000050000000000000500005b00c00b00bb),(Hx 0x11018f18f0000100000ff0010011303000000300000000000003000031303000000300000000003030030000310000ff17f0017f17f00000000ff0000ff001001111116f14f14f13f14f14f014f014f14f14f13f14f14f014f014f14f14f13f14f14f014f014f14f013f013f13f13f0ff00ff0000000ff00000000000ff00ff000ff00000ff10f10f0ff00ff0000000ff00000000000ff00ff000ff00000ff10f10f0010f10f10f0010f000011f0011f11f0012f12f12f0012f000012f12f000011f00011f11f11f11f11f11f000010f0010f0010f10f10f10f10f10f000000000ff00ff000000000000000000000000000000000d),(Hx 0x130300000030000000000303003000031111111cf1af1af19f1af1af01af01af1af1af19f1af1af01af01af1af1af19f1af1af01af01af1af019f019f19f19f)] [11] (by kernel_rfl)
theorem EJ {os:OsState}{q0 q1 q2 q3 q4 fl:Value}{s1 s3:bl}{b0:Args}{t2:Nat}(hx:es[i]?=some ⟨hashInt kv,.int kv t1,.int vv t2⟩) (hb:decide (vv>999999)=false) (hc:decide (vv < -999999)=false) (hd:decide (vv+0 < 0)=false) (he:(vv+0==0)=false) (hf:decide (vv+0>0)=true):
  Qw w b1 b2 d os fun W=>⟨E2 W,9,⟨(bQ W f1),none,none,[(fn (dS W f1),p1),(.builtin "list.extend.loop" b0,p2),(.builtin "type.__call__" ⟨[.type "list",c0],[]⟩,p3),(fn (bK W l),p4),(CC,p5)],none⟩,den (bQ W f1),[(f1+1109,aj #[Aq W k0 ch,A1 W ak k1 ph,aa W aQ m0 q0,aa W aG m1 q1,A7 W m2 q2,aa W al m3 q3,aa W aN m4 q4] e0 s1),AB ph ch,(ch+1109,dC cd .none (Aa sm)),Ab cd,(sm+1109,cW sd it),Ab sd,(it+1109,aJ o fl (a+1109) i es.size ep ok ov),Az a da es ep,(l+1109,aj Q3 e3 s3)],j+1109,tk,.h (kU 6 7 (j+1111) (it+1109) (a+1109) i es.size ep o fl ok ov (Ac da es ep) es rfl rfl ⟨hashInt kv,.int kv t1,.int vv t2⟩ hx [f1+1109,ph+1109,ch+1109,cd+1109,sm+1109,sd+1109,it+1109,a+1109,l+1109] 9) fun x1=>.c (ix 11 (j+1111) (.int kv t1) (.int vv t2)) fun x2=>.u (fO vv 999999 false hb)<| .u (pA vv (-999999) false hc)<| .u (pA (vv+0) 0 false hd)<| .u (i0 "int.__eq__" F.entry_int_eq (fun a b=>a==b) (fun _ _ _ _=>rfl) (vv+0) (0) false he)<| .u (fO (vv+0) 0 true hf)<| .e (.e (.done (.ret (.int kv t1))) [(f1+1109,aj #[Aq W k0 ch,A1 W ak k1 ph,A1 W aQ m0 ch,aa W aG m1 (.bool true),A7 W m2 (Au j),aa W al m3 (Au j),aa W aN m4 (.int kv t1)] e0 (s1)),AG ph ch,A3 ch cd Data.plain j sm,AA cd,(sm+1109,(cW sd it)),AA sd,(it+1109,(aJ (b6.o x1) (b6.f x1) (a+1109) (i+1) (es.size) ep (b6.ok x1) (b6.ov x1))),AO a da es ep,(l+1109,(aj Q3 e3 s3)),(j+1111,(Ag kv t1 vv t2)),(j+1113,aA),(j+1114,⟨(.ref 773),(some (j+1113)),(Data.plain),#[(some (.int (vv+0 - 1) (tk+43))),(some (.int kv t1))]⟩)] (j+1129) (tk+48))⟩:=bE 1204 (Hx 0x1170770050500000050000000000000500005b0000bb00000005000500a0000aa00003030000003000000000000030000310303000000300000000000003000031303000000300000000000003000031112020222001) [(Hx 0x11cb50500000050000000000000500005b00c00b00bb),(Hx 0x11011f11f0012f12f12f0012f000012f12f000011f00011f11f11f11f11f11f000010f0010f0010f10f10f10f10f10f000000000ff00ff000000000000000000000000000000000d),[17,0,0,0,1],[16,0,0,16,16,16,0,1],(Hx 0x1100ff00ff0000000ff00000000000000ff00000ff19f0019f19f00000000ff0000ff0018f000018f18f0000100000ff0010011303000000300000000000003000031303000000300000000003030030000310000ff17f0017f17f00000000ff0000ff001001111116f14f14f13f14f14f014f014f14f14f13f14f14f014f014f14f14f13f14f14f014f014f14f013f013f13f13f0ff00ff0000000ff00000000000ff00ff000ff00000ff10f10f0ff00ff0000000ff00000000000ff00ff000ff00000ff10f10f),(Hx 0x1100ff00ff0000000ff00000000000000ff00000ff19f),(Hx 0x11111111df1bf1bf1af1bf1bf01bf01bf1bf1bf1af1bf1bf01bf01bf1bf1bf1af1bf1bf01bf01bf1bf01af01af1af1af0ff00ff0000000ff00000000000000ff00000ff19f0ff00ff0000000ff00000000000ff00ff000ff00000ff000ff00ff0000000ff00000000000000ff00000ff19f)] [11,13,14] 1204 (Hx 0x1170770050500000050000000000000500005b0000bb00000005000500a0000aa00003030000003000000000000030000310303000000300000000000003000031303000000300000000000003000031112020222001) [(Hx 0x11cb50500000050000000000000500005b00c00b00bb),(Hx 0x11011f11f0012f12f12f0012f000012f12f000011f00011f11f11f11f11f11f000010f0010f0010f10f10f10f10f10f000000000ff00ff000000000000000000000000000000000d),[17,0,0,0,1],[16,0,0,16,16,16,0,1],(Hx 0x1100ff00ff0000000ff00000000000000ff00000ff19f0019f19f00000000ff0000ff0018f000018f18f0000100000ff0010011303000000300000000000003000031303000000300000000003030030000310000ff17f0017f17f00000000ff0000ff001001111116f14f14f13f14f14f014f014f14f14f13f14f14f014f014f14f14f13f14f14f014f014f14f013f013f13f13f0ff00ff0000000ff00000000000ff00ff000ff00000ff10f10f0ff00ff0000000ff00000000000ff00ff000ff00000ff10f10f),(Hx 0x1100ff00ff0000000ff00000000000000ff00000ff19f),(Hx 0x11111111df1bf1bf1af1bf1bf01bf01bf1bf1bf1af1bf1bf01bf01bf1bf1bf1af1bf1bf01bf01bf1bf01af01af1af1af0ff00ff0000000ff00000000000000ff00000ff19f0ff00ff0000000ff00000000000ff00ff000ff00000ff000ff00ff0000000ff00000000000000ff00000ff19f)] [11,13,14] (by kernel_rfl)
theorem EK {os:OsState}{q0 q1 q2 q3 q4 fl:Value}{s1 s3:bl}{b0:Args}{t2:Nat}(hx:es[i]?=some ⟨hashInt kv,.int kv t1,.int 0 t2⟩):
  Qb b1 b2 d os fun b1 b2=>⟨Ad w b1 b2,9,⟨(bQ (W2 w b1 b2) f1),none,none,[(fn (dS (W2 w b1 b2) f1),p1),(.builtin "list.extend.loop" b0,p2),(.builtin "type.__call__" ⟨[.type "list",c0],[]⟩,p3),(fn (bK (W2 w b1 b2) l),p4),(CC,p5)],none⟩,den (bQ (W2 w b1 b2) f1),[(f1+1109,aj #[AP w b1 b2 k0 ch,A0 w b1 b2 ak k1 ph,Ai w b1 b2 aQ m0 q0,Ai w b1 b2 aG m1 q1,A7 (W2 w b1 b2) m2 q2,Ai w b1 b2 al m3 q3,Ai w b1 b2 aN m4 q4] e0 s1),AB ph ch,(ch+1109,dC cd .none (Aa sm)),Ab cd,(sm+1109,cW sd it),Ab sd,(it+1109,aJ o fl (a+1109) i es.size ep ok ov),Az a da es ep,(l+1109,aj Q3 e3 s3)],j+1109,tk,.h (kU 6 7 (j+1111) (it+1109) (a+1109) i es.size ep o fl ok ov (Ac da es ep) es rfl rfl ⟨hashInt kv,.int kv t1,.int 0 t2⟩ hx [f1+1109,ph+1109,ch+1109,cd+1109,sm+1109,sd+1109,it+1109,a+1109,l+1109] 9) fun x1=>.c (ix 11 (j+1111) (.int kv t1) (.int 0 t2)) fun x2=>.c (qY f1 (j+14) l (j+5) (j+4) (tk+24) t1 (tk+35) 1 e0 e3 kv s1 s3 #[AP w b1 b2 k0 ch,A0 w b1 b2 ak k1 ph,A0 w b1 b2 aQ m0 ch,aa (W2 w b1 b2) aG m1 (.bool true),A7 (W2 w b1 b2) m2 (Au j),Ai w b1 b2 al m3 (Au j),Ai w b1 b2 aN m4 q4] Q3 b0 c0 [23,0,8,14,13] (by decide) rfl) fun x3=>.e (.e (.again (bQ (W2 w b1 b2) f1)) [(f1+1109,aj #[AP w b1 b2 k0 ch,A0 w b1 b2 ak k1 ph,A0 w b1 b2 aQ m0 ch,AJ w b1 b2 aG m1,A7 (W2 w b1 b2) m2 (Au j),Ai w b1 b2 al m3 (Au j),aa (W2 w b1 b2) aN m4 .none] e0 ((ef.f x3 1))),AS ph ch,Av ch cd Data.plain sm,Ab cd,Aj sm sd Data.plain it,Ab sd,(it+1109,⟨(.type "dict_itemiterator"),none,.fields #[(b6.o x1),(b6.f x1),(Aa a),(.int (↑(i+1)) 0),(.int (↑es.size) 0),(.int (↑ep) 0),(b6.ok x1),(b6.ov x1)],#[]⟩),Az a da es ep,(l+1109,aj Q3 e3 ((ef.f x3 2))),(j+1111,(AC kv t1 t2))] ((x3.j)+1113) ((x3.2)+3))⟩:=bE 997 (Hx 0x1170770050500000050000000000000500005b0000bb00000005000500a0000aa00003030000003000000000000030000310303000000300000000000003000031303000000300000000000003000031112020222001) [(Hx 0x11cb50500000050000000000000500005b00c00b00bb),(Hx 0x11018f18f0000100000ff0010011303000000300000000000003000031303000000300000000003030030000310000ff17f0017f17f00000000ff0000ff001001111116f14f14f13f14f14f014f014f14f14f13f14f14f014f014f14f14f13f14f14f014f014f14f013f013f13f13f0ff00ff0000000ff00000000000ff00ff000ff00000ff10f10f0ff00ff0000000ff00000000000ff00ff000ff00000ff10f10f0010f10f10f0010f000011f0011f11f0012f12f12f0012f000012f12f000011f00011f11f11f11f11f11f000010f0010f0010f10f10f10f10f10f000000000ff00ff000000000000000000000000000000000d),(Hx 0x130300000030000000000303003000031111111cf1af1af19f1af1af01af01af1af1af19f1af1af01af01af1af1af19f1af1af01af01af1af019f019f19f19f)] [11] 997 (Hx 0x1170770050500000050000000000000500005b0000bb00000005000500a0000aa00003030000003000000000000030000310303000000300000000000003000031303000000300000000000003000031112020222001) [(Hx 0x11cb50500000050000000000000500005b00c00b00bb),(Hx 0x11018f18f0000100000ff0010011303000000300000000000003000031303000000300000000003030030000310000ff17f0017f17f00000000ff0000ff001001111116f14f14f13f14f14f014f014f14f14f13f14f14f014f014f14f14f13f14f14f014f014f14f013f013f13f13f0ff00ff0000000ff00000000000ff00ff000ff00000ff10f10f0ff00ff0000000ff00000000000ff00ff000ff00000ff10f10f0010f10f10f0010f000011f0011f11f0012f12f12f0012f000012f12f000011f00011f11f11f11f11f11f000010f0010f0010f10f10f10f10f10f000000000ff00ff000000000000000000000000000000000d),(Hx 0x130300000030000000000303003000031111111cf1af1af19f1af1af01af01af1af1af19f1af1af01af01af1af1af19f1af1af01af01af1af019f019f19f19f)] [11] (by kernel_rfl)
theorem EL {os:OsState}{q0 q1 q2 q3 q4 fl:Value}{s1 s3:bl}{b0:Args}{t2:Nat}(hx:es[i]?=some ⟨hashInt kv,.int kv t1,.int vv t2⟩) (hb:decide (vv>999999)=false) (hc:decide (vv < -999999)=false) (hd:decide (vv+0 < 0)=false) (he:(vv+0==0)=false) (hf:decide (vv+0>0)=true):
  Qw w b1 b2 d os fun W=>⟨E2 W,9,⟨(bQ W f1),none,none,[(fn (dS W f1),p1),(.builtin "list.extend.loop" b0,p2),(.builtin "type.__call__" ⟨[.type "list",c0],[]⟩,p3),(fn (bK W l),p4),(CC,p5)],none⟩,den (bQ W f1),[(f1+1109,aj #[Aq W k0 ch,A1 W ak k1 ph,aa W aQ m0 q0,aa W al m1 q1,aa W aG m2 q2,aa W aN m3 q3,A7 W m4 q4] e0 s1),AB ph ch,(ch+1109,dC cd .none (Aa sm)),Ab cd,(sm+1109,cW sd it),Ab sd,(it+1109,aJ o fl (a+1109) i es.size ep ok ov),Az a da es ep,(l+1109,aj Q3 e3 s3)],j+1109,tk,.h (kU 6 7 (j+1111) (it+1109) (a+1109) i es.size ep o fl ok ov (Ac da es ep) es rfl rfl ⟨hashInt kv,.int kv t1,.int vv t2⟩ hx [f1+1109,ph+1109,ch+1109,cd+1109,sm+1109,sd+1109,it+1109,a+1109,l+1109] 9) fun x1=>.c (ix 11 (j+1111) (.int kv t1) (.int vv t2)) fun x2=>.u (fO vv 999999 false hb)<| .u (pA vv (-999999) false hc)<| .u (pA (vv+0) 0 false hd)<| .u (i0 "int.__eq__" F.entry_int_eq (fun a b=>a==b) (fun _ _ _ _=>rfl) (vv+0) (0) false he)<| .u (fO (vv+0) 0 true hf)<| .e (.e (.done (.ret (.int kv t1))) [(f1+1109,aj #[Aq W k0 ch,A1 W ak k1 ph,A1 W aQ m0 ch,aa W al m1 (Au j),aa W aG m2 (.bool true),aa W aN m3 (.int kv t1),A7 W m4 (Au j)] e0 (s1)),AG ph ch,A3 ch cd Data.plain j sm,AA cd,(sm+1109,(cW sd it)),AA sd,(it+1109,(aJ (b6.o x1) (b6.f x1) (a+1109) (i+1) (es.size) ep (b6.ok x1) (b6.ov x1))),AO a da es ep,(l+1109,(aj Q3 e3 s3)),(j+1111,(Ag kv t1 vv t2)),(j+1113,aA),(j+1114,⟨(.ref 773),(some (j+1113)),(Data.plain),#[(some (.int (vv+0 - 1) (tk+43))),(some (.int kv t1))]⟩)] (j+1129) (tk+48))⟩:=bE 1204 (Hx 0x1170770050500000050000000000000500005b0000bb00000005000500a0000aa00003030000003000000000000030000310303000000300000000000003000031303000000300000000000003000031112020222001) [(Hx 0x11cb50500000050000000000000500005b00c00b00bb),(Hx 0x11011f11f0012f12f12f0012f000012f12f000011f00011f11f11f11f11f11f000010f0010f0010f10f10f10f10f10f000000000ff00ff000000000000000000000000000000000d),[17,0,0,0,1],[16,0,0,16,16,16,0,1],(Hx 0x1100ff00ff0000000ff00000000000000ff00000ff19f0019f19f00000000ff0000ff0018f000018f18f0000100000ff0010011303000000300000000000003000031303000000300000000003030030000310000ff17f0017f17f00000000ff0000ff001001111116f14f14f13f14f14f014f014f14f14f13f14f14f014f014f14f14f13f14f14f014f014f14f013f013f13f13f0ff00ff0000000ff00000000000ff00ff000ff00000ff10f10f0ff00ff0000000ff00000000000ff00ff000ff00000ff10f10f),(Hx 0x1100ff00ff0000000ff00000000000000ff00000ff19f),(Hx 0x11111111df1bf1bf1af1bf1bf01bf01bf1bf1bf1af1bf1bf01bf01bf1bf1bf1af1bf1bf01bf01bf1bf01af01af1af1af0ff00ff0000000ff00000000000000ff00000ff19f0ff00ff0000000ff00000000000ff00ff000ff00000ff000ff00ff0000000ff00000000000000ff00000ff19f)] [11,13,14] 1204 (Hx 0x1170770050500000050000000000000500005b0000bb00000005000500a0000aa00003030000003000000000000030000310303000000300000000000003000031303000000300000000000003000031112020222001) [(Hx 0x11cb50500000050000000000000500005b00c00b00bb),(Hx 0x11011f11f0012f12f12f0012f000012f12f000011f00011f11f11f11f11f11f000010f0010f0010f10f10f10f10f10f000000000ff00ff000000000000000000000000000000000d),[17,0,0,0,1],[16,0,0,16,16,16,0,1],(Hx 0x1100ff00ff0000000ff00000000000000ff00000ff19f0019f19f00000000ff0000ff0018f000018f18f0000100000ff0010011303000000300000000000003000031303000000300000000003030030000310000ff17f0017f17f00000000ff0000ff001001111116f14f14f13f14f14f014f014f14f14f13f14f14f014f014f14f14f13f14f14f014f014f14f013f013f13f13f0ff00ff0000000ff00000000000ff00ff000ff00000ff10f10f0ff00ff0000000ff00000000000ff00ff000ff00000ff10f10f),(Hx 0x1100ff00ff0000000ff00000000000000ff00000ff19f),(Hx 0x11111111df1bf1bf1af1bf1bf01bf01bf1bf1bf1af1bf1bf01bf01bf1bf1bf1af1bf1bf01bf01bf1bf01af01af1af1af0ff00ff0000000ff00000000000000ff00000ff19f0ff00ff0000000ff00000000000ff00ff000ff00000ff000ff00ff0000000ff00000000000000ff00000ff19f)] [11,13,14] (by kernel_rfl)
theorem EM {os:OsState}{q0 q1 q2 q3 q4 fl:Value}{s1 s3:bl}{b0:Args}{t2:Nat}(hx:es[i]?=some ⟨hashInt kv,.int kv t1,.int 0 t2⟩):
  Qb b1 b2 d os fun b1 b2=>⟨Ad w b1 b2,9,⟨(bQ (W2 w b1 b2) f1),none,none,[(fn (dS (W2 w b1 b2) f1),p1),(.builtin "list.extend.loop" b0,p2),(.builtin "type.__call__" ⟨[.type "list",c0],[]⟩,p3),(fn (bK (W2 w b1 b2) l),p4),(CC,p5)],none⟩,den (bQ (W2 w b1 b2) f1),[(f1+1109,aj #[AP w b1 b2 k0 ch,A0 w b1 b2 ak k1 ph,Ai w b1 b2 aQ m0 q0,Ai w b1 b2 al m1 q1,Ai w b1 b2 aG m2 q2,Ai w b1 b2 aN m3 q3,A7 (W2 w b1 b2) m4 q4] e0 s1),AB ph ch,(ch+1109,dC cd .none (Aa sm)),Ab cd,(sm+1109,cW sd it),Ab sd,(it+1109,aJ o fl (a+1109) i es.size ep ok ov),Az a da es ep,(l+1109,aj Q3 e3 s3)],j+1109,tk,.h (kU 6 7 (j+1111) (it+1109) (a+1109) i es.size ep o fl ok ov (Ac da es ep) es rfl rfl ⟨hashInt kv,.int kv t1,.int 0 t2⟩ hx [f1+1109,ph+1109,ch+1109,cd+1109,sm+1109,sd+1109,it+1109,a+1109,l+1109] 9) fun x1=>.c (ix 11 (j+1111) (.int kv t1) (.int 0 t2)) fun x2=>.c (qY f1 (j+14) l (j+5) (j+4) (tk+24) t1 (tk+35) 1 e0 e3 kv s1 s3 #[AP w b1 b2 k0 ch,A0 w b1 b2 ak k1 ph,A0 w b1 b2 aQ m0 ch,Ai w b1 b2 al m1 (Au j),aa (W2 w b1 b2) aG m2 (.bool true),Ai w b1 b2 aN m3 q3,A7 (W2 w b1 b2) m4 (Au j)] Q3 b0 c0 [23,0,8,14,13] (by decide) rfl) fun x3=>.e (.e (.again (bQ (W2 w b1 b2) f1)) [(f1+1109,aj #[AP w b1 b2 k0 ch,A0 w b1 b2 ak k1 ph,A0 w b1 b2 aQ m0 ch,Ai w b1 b2 al m1 (Au j),AJ w b1 b2 aG m2,aa (W2 w b1 b2) aN m3 .none,A7 (W2 w b1 b2) m4 (Au j)] e0 ((ef.f x3 1))),AS ph ch,Av ch cd Data.plain sm,Ab cd,Aj sm sd Data.plain it,Ab sd,(it+1109,⟨(.type "dict_itemiterator"),none,.fields #[(b6.o x1),(b6.f x1),(Aa a),(.int (↑(i+1)) 0),(.int (↑es.size) 0),(.int (↑ep) 0),(b6.ok x1),(b6.ov x1)],#[]⟩),Az a da es ep,(l+1109,aj Q3 e3 ((ef.f x3 2))),(j+1111,(AC kv t1 t2))] ((x3.j)+1113) ((x3.2)+3))⟩:=bE 997 (Hx 0x1170770050500000050000000000000500005b0000bb00000005000500a0000aa00003030000003000000000000030000310303000000300000000000003000031303000000300000000000003000031112020222001) [(Hx 0x11cb50500000050000000000000500005b00c00b00bb),(Hx 0x11018f18f0000100000ff0010011303000000300000000000003000031303000000300000000003030030000310000ff17f0017f17f00000000ff0000ff001001111116f14f14f13f14f14f014f014f14f14f13f14f14f014f014f14f14f13f14f14f014f014f14f013f013f13f13f0ff00ff0000000ff00000000000ff00ff000ff00000ff10f10f0ff00ff0000000ff00000000000ff00ff000ff00000ff10f10f0010f10f10f0010f000011f0011f11f0012f12f12f0012f000012f12f000011f00011f11f11f11f11f11f000010f0010f0010f10f10f10f10f10f000000000ff00ff000000000000000000000000000000000d),(Hx 0x130300000030000000000303003000031111111cf1af1af19f1af1af01af01af1af1af19f1af1af01af01af1af1af19f1af1af01af01af1af019f019f19f19f)] [11] 997 (Hx 0x1170770050500000050000000000000500005b0000bb00000005000500a0000aa00003030000003000000000000030000310303000000300000000000003000031303000000300000000000003000031112020222001) [(Hx 0x11cb50500000050000000000000500005b00c00b00bb),(Hx 0x11018f18f0000100000ff0010011303000000300000000000003000031303000000300000000003030030000310000ff17f0017f17f00000000ff0000ff001001111116f14f14f13f14f14f014f014f14f14f13f14f14f014f014f14f14f13f14f14f014f014f14f013f013f13f13f0ff00ff0000000ff00000000000ff00ff000ff00000ff10f10f0ff00ff0000000ff00000000000ff00ff000ff00000ff10f10f0010f10f10f0010f000011f0011f11f0012f12f12f0012f000012f12f000011f00011f11f11f11f11f11f000010f0010f0010f10f10f10f10f10f000000000ff00ff000000000000000000000000000000000d),(Hx 0x130300000030000000000303003000031111111cf1af1af19f1af1af01af01af1af1af19f1af1af01af01af1af1af19f1af1af01af01af1af019f019f19f19f)] [11] (by kernel_rfl)
theorem zB {os:OsState}{fl:Value}{s1 s3:bl}{b0:Args}:
  Qb b1 b2 d os fun b1 b2=>⟨Ad w b1 b2,11,⟨(bQ (W2 w b1 b2) f1),none,none,[(fn (dS (W2 w b1 b2) f1),p1),(.builtin "list.extend.loop" b0,p2),(.builtin "type.__call__" ⟨[.type "list",c0],[]⟩,p3),(fn (bK (W2 w b1 b2) l),p4),(CC,p5)],none⟩,den (bQ (W2 w b1 b2) f1),[(f1+1109,aj #[AP w b1 b2 k0 ch,A0 w b1 b2 ak k1 ph] e0 s1),AB ph ch,(ch+1109,dC cd (Aa r) (Aa sm)),Ab cd,(sm+1109,cW sd it),Ab sd,(it+1109,aJ o fl (a+1109) i es.size ep ok ov),Az a da es ep,(l+1109,aj Q3 e3 s3),(r+1109,gD rd 0 tc el te),Ab rd],j+1109,tk,.c (qY f1 j l r rd tc te (tk+7) 1 (e0+2) e3 el s1 s3 #[AP w b1 b2 k0 ch,A0 w b1 b2 ak k1 ph,A0 w b1 b2 aQ (tk+2) ch,A0 w b1 b2 al (tk+6) r] Q3 b0 c0 [11,0,8,9,10] (by decide) rfl) fun x1=>.e (.e (.again (bQ (W2 w b1 b2) f1)) [(f1+1109,aj #[AP w b1 b2 k0 ch,A0 w b1 b2 ak k1 ph,A0 w b1 b2 aQ (tk+2) ch,A0 w b1 b2 al (tk+6) r,AJ w b1 b2 aG (x1.2),aa (W2 w b1 b2) aN ((x1.2)+1) .none] (e0+4) ((ef.f x1 1))),AS ph ch,Av ch cd Data.plain sm,Ab cd,Aj sm sd Data.plain it,Ab sd,(it+1109,⟨(.type "dict_itemiterator"),none,.fields #[o,fl,(Aa a),(.int (↑i) 0),(.int (↑es.size) 0),(.int (↑ep) 0),ok,ov],#[]⟩),Az a da es ep,(l+1109,aj Q3 e3 ((ef.f x1 2))),A8 r rd Data.plain tc el te,Ab rd] ((x1.j)+1113) ((x1.2)+3))⟩:=bE 353 (Hx 0x110cc000010000a0010011303000000300000000000003000031303000000300000000000003000031303000000300000000000003000031112020222001) [(Hx 0x1303000000300000000003030030000311111110feedee0e0eeedee0e0eeedee0e0ee0d0ddd)] [] 353 (Hx 0x110cc000010000a0010011303000000300000000000003000031303000000300000000000003000031303000000300000000000003000031112020222001) [(Hx 0x1303000000300000000003030030000311111110feedee0e0eeedee0e0eeedee0e0ee0d0ddd)] [] (by kernel_rfl)
end
section
variable {Q:Flow->Pos->Shared->Prop}{X:Value->Pos->Shared->Prop}{b o rest:List Stmt}{e:Value}{g:Array GenState}{h:Heap}{m:Mm}{n tk:Nat}{p:Pos}{Γ:Ctx}
noncomputable def EN (w:World) (ex f1:Nat):Code:=.handlers (.ref (ex+1109)) [.ExceptHandler none none (Ho (ku (fD w 1))) (Hp (ku (fD w 1)))] (envOf w 717 (f1+1109))
theorem qZ (w:World):Cb (au w 717 1)=[fD w 0]++(fD w 1::(Cb (au w 717 1)).drop 2):=by kernel_rfl
section
variable {E:En}{V:Heap}{U:Nat}{d:Drawn}{os:OsState}
theorem EO {env:Env}{hs:List ExceptHandler}(hg:E.G g) (hr:Rep E V U m n h)
  (w:Well E V U (Ck Q X) d os ⟨Γ,p,[],Cg e env hs,m,n,tk⟩):wp (Mo E) Γ (handleWith e env hs) Q X p ⟨h,g,d,tk,os⟩:=by
 have z:=w h g hg hr
 rw [cO] at z
 rw [Ch,Sem.wp_bind'] at z
 exact Sem.wp_mono _ _ _ (fun f p' s' h=>h p') (fun e p' s' h=>h p') _ _ z
theorem EP {env:Env}{t:Expr}{Q:Bool->Pos->Shared->Prop}(hg:E.G g) (hr:Rep E V U m n h)
  (w:Well E V U (Ck (fun f p s=>∃ b,f=.ret (.bool b)/\Q b p s) X) d os ⟨Γ,p,[],Ci t env,m,n,tk⟩):wp (Mo E) Γ (isTrue t env (eval t env)) Q X p ⟨h,g,d,tk,os⟩:=by
 have z:=w h g hg hr
 rw [cO] at z
 rw [Cj,Sem.wp_bind'] at z
 refine Sem.wp_mono _ _ _ (fun b p' s' h=>?_) (fun e p' s' h=>h p') _ _ z
 obtain ⟨b',e,h⟩:=h p'
 injection e with e
 injection e with e
 exact e▸h
theorem lx {hs : List ExceptHandler} {env : Env} {R : Result -> Shared -> Prop} {s : Shared} (aF : Γ.code = .handlers e hs env)
    (h : wp (Mo E) Γ (handleWith e env hs) (fun f _ s' => R (.ok f) s') (fun e p s' => wp (Mo E) Γ (do noteFrame e env; theTreesLotGoes e) (fun _ _ gr => R (.error e) gr) (fun e' _ gr => R (.error e') gr) p s') p s) : wpCode (Mo E) Γ R p s := by
  refine (wpCode_iff_wp _ _ _ _ _).mpr ?_
  rw [aF]
  show wp (Mo E) Γ ((handleWith e env hs).onRaise (fun x => do noteFrame x env; theTreesLotGoes x) >>= fun fl => (pure (Fin.done fl) : Sem Fin)) _ _ _ _
  rw [Sem.wp_bind', Sem.wp_onRaise]
  exact h
theorem oV {t : Expr} {env : Env} {R : Result -> Shared -> Prop} {s : Shared} (aF : Γ.code = .whileLoop t b o env)
    (h : wp (Mo E) Γ (isTrue t env (eval t env)) (fun c p s => c = true /\ wp (Mo E) Γ (execs b env) (fun _ _ _ => False) (fun e p s' => wp (Mo E) Γ (do noteFrame e env; theTreesLotGoes e) (fun _ _ gr => R (.error e) gr) (fun e' _ gr => R (.error e') gr) p s') p s) (fun _ _ _ => False) p s) : wpCode (Mo E) Γ R p s := by
  refine (wpCode_iff_wp _ _ _ _ _).mpr ?_
  rw [aF]
  show wp (Mo E) Γ ((whileTurn t b o env).onRaise (fun x => do noteFrame x env; theTreesLotGoes x)) _ _ _ _
  rw [Sem.wp_onRaise]
  unfold whileTurn
  rw [Sem.wp_bind']
  refine Sem.wp_mono _ _ _ (fun c p' s' h => ?_) (fun _ _ _ h => h.elim) _ _ h
  obtain ⟨rfl, h⟩ := h
  rw [if_pos rfl, Sem.wp_bind']
  exact Sem.wp_mono _ _ _ (fun _ _ _ h => h.elim) (fun _ _ _ h => h) _ _ h
theorem jP {M:Model}{st:Stmt}{hs:List ExceptHandler}{pos:Pos}{env:Env}{s:Shared}(e:st=.Try b hs [] [] pos) (bx:hs.isEmpty=false)
  (h:∀ p,wp M Γ (execs b env) (fun _ _ _=>False) (fun e p s=>wp M Γ (noteFrame e env) (fun _ p s=>wp M Γ (setFlight e none>>=fun _=>handleBy e env hs) (fun _ _ _=>False) X p s) X p s) p s):wp M Γ (execs (st::rest) env) Q X p s:=by
 show wp M Γ (exec st env>>=fun f=>match f with | .next=>execs rest env | f=>pure f) Q X p s
 rw [Sem.wp_bind',e]
 exact Sem.wp_mono _ _ _ (fun _ _ _ h=>h.elim) (fun _ _ _ h=>h) _ _ (oT bx h)
end
end
section
variable {Q3 es:Array DictEntry}{Tx a cd ch da e0 e3 ep ex f1 i it j k0 k1 l m0 m1 m2 m3 m4 ph sd sm tk tx:Nat}{b1 b2:Bool}{c0 hd o ok ov:Value}{d:Drawn}{p1 p2 p3 p4 p5 p6:Pos}{w:World}
theorem Hw {os:OsState}{b0:Args}:
  Qw w b1 b2 d os fun W=>⟨E2 W,0,⟨(bQ W f1),none,none,[(fn (dS W f1),p1),(.builtin "list.extend.loop" b0,p2),(.builtin "type.__call__" ⟨[.type "list",c0],[]⟩,p3),(fn (bK W l),p4),(CC,p5)],none⟩,Ci (Hc (au W 717 1)) (Ay W f1),[],j+1109,tk,.e (.e (.done (.ret (.bool true))) [] (j+1109) tk)⟩:=bE 62 [] [] [] 62 [] [] [] (by kernel_rfl)
theorem EQ {os:OsState}{s1:bl}{b0:Args}:
  Qw w b1 b2 d os fun W=>⟨E2 W,2,⟨(bQ W f1),none,none,[(fn (dS W f1),p1),(.builtin "list.extend.loop" b0,p2),(.builtin "type.__call__" ⟨[.type "list",c0],[]⟩,p3),(fn (bK W l),p4),(CC,p5)],none⟩,d9 [fD W 0] (Ay W f1),[(f1+1109,aj #[Aq W k0 ch,A1 W ak k1 ph] e0 s1),AB ph ch],j+1109,tk,.e (.e (.done .next) [(f1+1109,aj #[Aq W k0 ch,A1 W ak k1 ph,A1 W aQ (tk+2) ch] (e0+1) (s1)),AG ph ch] (j+1109) (tk+3))⟩:=bE 86 (Hx 0x1112020222001) [] [] 86 (Hx 0x1112020222001) [] [] (by kernel_rfl)
theorem ER {os:OsState}{q0 q1 q2 q3:Value}{s1:bl}{b0:Args}:
  Qw w b1 b2 d os fun W=>⟨E2 W,2,⟨(bQ W f1),none,none,[(fn (dS W f1),p1),(.builtin "list.extend.loop" b0,p2),(.builtin "type.__call__" ⟨[.type "list",c0],[]⟩,p3),(fn (bK W l),p4),(CC,p5)],none⟩,d9 [fD W 0] (Ay W f1),[(f1+1109,aj #[Aq W k0 ch,A1 W ak k1 ph,aa W aQ m0 q0,aa W al m1 q1,aa W aG m2 q2,aa W aN m3 q3] e0 s1),AB ph ch],j+1109,tk,.e (.e (.done .next) [(f1+1109,aj #[Aq W k0 ch,A1 W ak k1 ph,A1 W aQ m0 ch,aa W al m1 q1,aa W aG m2 q2,aa W aN m3 q3] e0 (s1)),AG ph ch] (j+1109) (tk+3))⟩:=bE 86 (Hx 0x1112020222001) [] [] 86 (Hx 0x1112020222001) [] [] (by kernel_rfl)
theorem ES {os:OsState}{q0 q1 q2 q3 q4:Value}{s1:bl}{b0:Args}:
  Qw w b1 b2 d os fun W=>⟨E2 W,2,⟨(bQ W f1),none,none,[(fn (dS W f1),p1),(.builtin "list.extend.loop" b0,p2),(.builtin "type.__call__" ⟨[.type "list",c0],[]⟩,p3),(fn (bK W l),p4),(CC,p5)],none⟩,d9 [fD W 0] (Ay W f1),[(f1+1109,aj #[Aq W k0 ch,A1 W ak k1 ph,aa W aQ m0 q0,aa W aG m1 q1,A7 W m2 q2,aa W al m3 q3,aa W aN m4 q4] e0 s1),AB ph ch],j+1109,tk,.e (.e (.done .next) [(f1+1109,aj #[Aq W k0 ch,A1 W ak k1 ph,A1 W aQ m0 ch,aa W aG m1 q1,A7 W m2 q2,aa W al m3 q3,aa W aN m4 q4] e0 (s1)),AG ph ch] (j+1109) (tk+3))⟩:=bE 86 (Hx 0x1112020222001) [] [] 86 (Hx 0x1112020222001) [] [] (by kernel_rfl)
theorem ET {os:OsState}{q0 q1 q2 q3 q4:Value}{s1:bl}{b0:Args}:
  Qw w b1 b2 d os fun W=>⟨E2 W,2,⟨(bQ W f1),none,none,[(fn (dS W f1),p1),(.builtin "list.extend.loop" b0,p2),(.builtin "type.__call__" ⟨[.type "list",c0],[]⟩,p3),(fn (bK W l),p4),(CC,p5)],none⟩,d9 [fD W 0] (Ay W f1),[(f1+1109,aj #[Aq W k0 ch,A1 W ak k1 ph,aa W aQ m0 q0,aa W al m1 q1,aa W aG m2 q2,aa W aN m3 q3,A7 W m4 q4] e0 s1),AB ph ch],j+1109,tk,.e (.e (.done .next) [(f1+1109,aj #[Aq W k0 ch,A1 W ak k1 ph,A1 W aQ m0 ch,aa W al m1 q1,aa W aG m2 q2,aa W aN m3 q3,A7 W m4 q4] e0 (s1)),AG ph ch] (j+1109) (tk+3))⟩:=bE 86 (Hx 0x1112020222001) [] [] 86 (Hx 0x1112020222001) [] [] (by kernel_rfl)
noncomputable abbrev An:=fun a=>(⟨(.type "StopIteration"),none,.fields #[(.ref ((a)+1115)),.none,.none,.none,(.bool false),.none],#[]⟩:Obj)
noncomputable abbrev Ar:=fun a b c=>((a+1109,⟨(.ref 721),(some (b+1109)),(c),#[(some .none),(some .none)]⟩):Addr×Obj)
theorem EU {os:OsState}{fl:Value}{s1 s3:bl}{b0:Args}(hx:es.size<=i):
  Qb b1 b2 d os fun b1 b2=>⟨Ad w b1 b2,9,⟨(bQ (W2 w b1 b2) f1),none,none,[(fn (dS (W2 w b1 b2) f1),p1),(.builtin "list.extend.loop" b0,p2),(.builtin "type.__call__" ⟨[.type "list",c0],[]⟩,p3),(fn (bK (W2 w b1 b2) l),p4),(CC,p5)],none⟩,d9 (mP (fD (W2 w b1 b2) 1)) (Ay (W2 w b1 b2) f1),[(f1+1109,aj #[AP w b1 b2 k0 ch,A0 w b1 b2 ak k1 ph,A0 w b1 b2 aQ m0 ch] e0 s1),AB ph ch,(ch+1109,dC cd .none (Aa sm)),Ab cd,(sm+1109,cW sd it),Ab sd,(it+1109,aJ o fl (a+1109) i es.size ep ok ov),Az a da es ep,(l+1109,aj Q3 e3 s3)],j+1109,tk,.c (ue f1 j l sm sd it a da ep i (tk+3) 1 e0 e3 s1 s3 #[AP w b1 b2 k0 ch,A0 w b1 b2 ak k1 ph,A0 w b1 b2 aQ m0 ch] Q3 o fl ok ov es b0 c0 hx [9,0,8,4,5,6,7] (by decide) rfl) fun x1=>.e (.e (.raise (.ref ((x1.j)+1114))) [(f1+1109,aj #[AP w b1 b2 k0 ch,A0 w b1 b2 ak k1 ph,A0 w b1 b2 aQ m0 ch,AJ w b1 b2 aG (x1.2),aa (W2 w b1 b2) cf ((x1.2)+1) .none] (e0+2) ((ef.f x1 1))),AS ph ch,Ar ch cd Data.plain,Ab cd,Aj sm sd Data.plain it,Ab sd,AF it x1.o,Az a da es ep,(l+1109,aj Q3 e3 ((ef.f x1 2))),((x1.j)+1114,(An x1.j))] ((x1.j)+1116) ((x1.2)+3))⟩:=bE 340 (Hx 0x110aa00003030000003000000000000030000310303000000300000000000003000031303000000300000000000003000031) [(Hx 0x110f00010f10f10f10f10f10f10f10f10f10f0010f10f010f10f0000003030000003000000000030300300003111111eccbcc0c0cccbcc0c0cccbcc0c0cc0b0bbb)] [15] 340 (Hx 0x110aa00003030000003000000000000030000310303000000300000000000003000031303000000300000000000003000031) [(Hx 0x110f00010f10f10f10f10f10f10f10f10f10f0010f10f010f10f0000003030000003000000000030300300003111111eccbcc0c0cccbcc0c0cccbcc0c0cc0b0bbb)] [15] (by kernel_rfl)
theorem EV {os:OsState}{q1 q2 q3 fl:Value}{s1 s3:bl}{b0:Args}(hx:es.size<=i):
  Qb b1 b2 d os fun b1 b2=>⟨Ad w b1 b2,9,⟨(bQ (W2 w b1 b2) f1),none,none,[(fn (dS (W2 w b1 b2) f1),p1),(.builtin "list.extend.loop" b0,p2),(.builtin "type.__call__" ⟨[.type "list",c0],[]⟩,p3),(fn (bK (W2 w b1 b2) l),p4),(CC,p5)],none⟩,d9 (mP (fD (W2 w b1 b2) 1)) (Ay (W2 w b1 b2) f1),[(f1+1109,aj #[AP w b1 b2 k0 ch,A0 w b1 b2 ak k1 ph,A0 w b1 b2 aQ m0 ch,Ai w b1 b2 al m1 q1,Ai w b1 b2 aG m2 q2,Ai w b1 b2 aN m3 q3] e0 s1),AB ph ch,(ch+1109,dC cd .none (Aa sm)),Ab cd,(sm+1109,cW sd it),Ab sd,(it+1109,aJ o fl (a+1109) i es.size ep ok ov),Az a da es ep,(l+1109,aj Q3 e3 s3)],j+1109,tk,.c (ue f1 j l sm sd it a da ep i (tk+3) 1 e0 e3 s1 s3 #[AP w b1 b2 k0 ch,A0 w b1 b2 ak k1 ph,A0 w b1 b2 aQ m0 ch,Ai w b1 b2 al m1 q1,Ai w b1 b2 aG m2 q2,Ai w b1 b2 aN m3 q3] Q3 o fl ok ov es b0 c0 hx [9,0,8,4,5,6,7] (by decide) rfl) fun x1=>.e (.e (.raise (.ref ((x1.j)+1114))) [(f1+1109,aj #[AP w b1 b2 k0 ch,A0 w b1 b2 ak k1 ph,A0 w b1 b2 aQ m0 ch,Ai w b1 b2 al m1 q1,AJ w b1 b2 aG m2,Ai w b1 b2 aN m3 q3,aa (W2 w b1 b2) cf ((x1.2)+1) .none] (e0+1) ((ef.f x1 1))),AS ph ch,Ar ch cd Data.plain,Ab cd,Aj sm sd Data.plain it,Ab sd,AF it x1.o,Az a da es ep,(l+1109,aj Q3 e3 ((ef.f x1 2))),((x1.j)+1114,(An x1.j))] ((x1.j)+1116) ((x1.2)+3))⟩:=bE 340 (Hx 0x110aa00003030000003000000000000030000310303000000300000000000003000031303000000300000000000003000031) [(Hx 0x110f00010f10f10f10f10f10f10f10f10f10f0010f10f010f10f0000003030000003000000000030300300003111111eccbcc0c0cccbcc0c0cccbcc0c0cc0b0bbb)] [15] 340 (Hx 0x110aa00003030000003000000000000030000310303000000300000000000003000031303000000300000000000003000031) [(Hx 0x110f00010f10f10f10f10f10f10f10f10f10f0010f10f010f10f0000003030000003000000000030300300003111111eccbcc0c0cccbcc0c0cccbcc0c0cc0b0bbb)] [15] (by kernel_rfl)
theorem EW {os:OsState}{q1 q2 q3 q4 fl:Value}{s1 s3:bl}{b0:Args}(hx:es.size<=i):
  Qb b1 b2 d os fun b1 b2=>⟨Ad w b1 b2,9,⟨(bQ (W2 w b1 b2) f1),none,none,[(fn (dS (W2 w b1 b2) f1),p1),(.builtin "list.extend.loop" b0,p2),(.builtin "type.__call__" ⟨[.type "list",c0],[]⟩,p3),(fn (bK (W2 w b1 b2) l),p4),(CC,p5)],none⟩,d9 (mP (fD (W2 w b1 b2) 1)) (Ay (W2 w b1 b2) f1),[(f1+1109,aj #[AP w b1 b2 k0 ch,A0 w b1 b2 ak k1 ph,A0 w b1 b2 aQ m0 ch,Ai w b1 b2 aG m1 q1,A7 (W2 w b1 b2) m2 q2,Ai w b1 b2 al m3 q3,Ai w b1 b2 aN m4 q4] e0 s1),AB ph ch,(ch+1109,dC cd .none (Aa sm)),Ab cd,(sm+1109,cW sd it),Ab sd,(it+1109,aJ o fl (a+1109) i es.size ep ok ov),Az a da es ep,(l+1109,aj Q3 e3 s3)],j+1109,tk,.c (ue f1 j l sm sd it a da ep i (tk+3) 1 e0 e3 s1 s3 #[AP w b1 b2 k0 ch,A0 w b1 b2 ak k1 ph,A0 w b1 b2 aQ m0 ch,Ai w b1 b2 aG m1 q1,A7 (W2 w b1 b2) m2 q2,Ai w b1 b2 al m3 q3,Ai w b1 b2 aN m4 q4] Q3 o fl ok ov es b0 c0 hx [9,0,8,4,5,6,7] (by decide) rfl) fun x1=>.e (.e (.raise (.ref ((x1.j)+1114))) [(f1+1109,aj #[AP w b1 b2 k0 ch,A0 w b1 b2 ak k1 ph,A0 w b1 b2 aQ m0 ch,AJ w b1 b2 aG m1,aa (W2 w b1 b2) cf m2 .none,Ai w b1 b2 al m3 q3,Ai w b1 b2 aN m4 q4] e0 ((ef.f x1 1))),AS ph ch,Ar ch cd Data.plain,Ab cd,Aj sm sd Data.plain it,Ab sd,AF it x1.o,Az a da es ep,(l+1109,aj Q3 e3 ((ef.f x1 2))),((x1.j)+1114,(An x1.j))] ((x1.j)+1116) ((x1.2)+3))⟩:=bE 340 (Hx 0x110aa00003030000003000000000000030000310303000000300000000000003000031303000000300000000000003000031) [(Hx 0x110f00010f10f10f10f10f10f10f10f10f10f0010f10f010f10f0000003030000003000000000030300300003111111eccbcc0c0cccbcc0c0cccbcc0c0cc0b0bbb)] [15] 340 (Hx 0x110aa00003030000003000000000000030000310303000000300000000000003000031303000000300000000000003000031) [(Hx 0x110f00010f10f10f10f10f10f10f10f10f10f0010f10f010f10f0000003030000003000000000030300300003111111eccbcc0c0cccbcc0c0cccbcc0c0cc0b0bbb)] [15] (by kernel_rfl)
theorem EX {os:OsState}{q1 q2 q3 q4 fl:Value}{s1 s3:bl}{b0:Args}(hx:es.size<=i):
  Qb b1 b2 d os fun b1 b2=>⟨Ad w b1 b2,9,⟨(bQ (W2 w b1 b2) f1),none,none,[(fn (dS (W2 w b1 b2) f1),p1),(.builtin "list.extend.loop" b0,p2),(.builtin "type.__call__" ⟨[.type "list",c0],[]⟩,p3),(fn (bK (W2 w b1 b2) l),p4),(CC,p5)],none⟩,d9 (mP (fD (W2 w b1 b2) 1)) (Ay (W2 w b1 b2) f1),[(f1+1109,aj #[AP w b1 b2 k0 ch,A0 w b1 b2 ak k1 ph,A0 w b1 b2 aQ m0 ch,Ai w b1 b2 al m1 q1,Ai w b1 b2 aG m2 q2,Ai w b1 b2 aN m3 q3,A7 (W2 w b1 b2) m4 q4] e0 s1),AB ph ch,(ch+1109,dC cd .none (Aa sm)),Ab cd,(sm+1109,cW sd it),Ab sd,(it+1109,aJ o fl (a+1109) i es.size ep ok ov),Az a da es ep,(l+1109,aj Q3 e3 s3)],j+1109,tk,.c (ue f1 j l sm sd it a da ep i (tk+3) 1 e0 e3 s1 s3 #[AP w b1 b2 k0 ch,A0 w b1 b2 ak k1 ph,A0 w b1 b2 aQ m0 ch,Ai w b1 b2 al m1 q1,Ai w b1 b2 aG m2 q2,Ai w b1 b2 aN m3 q3,A7 (W2 w b1 b2) m4 q4] Q3 o fl ok ov es b0 c0 hx [9,0,8,4,5,6,7] (by decide) rfl) fun x1=>.e (.e (.raise (.ref ((x1.j)+1114))) [(f1+1109,aj #[AP w b1 b2 k0 ch,A0 w b1 b2 ak k1 ph,A0 w b1 b2 aQ m0 ch,Ai w b1 b2 al m1 q1,AJ w b1 b2 aG m2,Ai w b1 b2 aN m3 q3,aa (W2 w b1 b2) cf m4 .none] e0 ((ef.f x1 1))),AS ph ch,Ar ch cd Data.plain,Ab cd,Aj sm sd Data.plain it,Ab sd,AF it x1.o,Az a da es ep,(l+1109,aj Q3 e3 ((ef.f x1 2))),((x1.j)+1114,(An x1.j))] ((x1.j)+1116) ((x1.2)+3))⟩:=bE 340 (Hx 0x110aa00003030000003000000000000030000310303000000300000000000003000031303000000300000000000003000031) [(Hx 0x110f00010f10f10f10f10f10f10f10f10f10f0010f10f010f10f0000003030000003000000000030300300003111111eccbcc0c0cccbcc0c0cccbcc0c0cc0b0bbb)] [15] 340 (Hx 0x110aa00003030000003000000000000030000310303000000300000000000003000031303000000300000000000003000031) [(Hx 0x110f00010f10f10f10f10f10f10f10f10f10f0010f10f010f10f0000003030000003000000000030300300003111111eccbcc0c0cccbcc0c0cccbcc0c0cc0b0bbb)] [15] (by kernel_rfl)
theorem Hy {os:OsState}{fl:Value}{xx:V6}{rest:List DictEntry}{s1:bl}{b0:Args}:
  Qw w b1 b2 d os fun W=>⟨E2 W,4,⟨(EN W ex f1),some (Aa ex),some (Aa ex),[((bQ W f1),p1),(fn (dS W f1),p2),(.builtin "list.extend.loop" b0,p3),(.builtin "type.__call__" ⟨[.type "list",c0],[]⟩,p4),(fn (bK W l),p5),(CC,p6)],none⟩,Cg (Aa ex) (Ay W f1) [.ExceptHandler none none (Ho (ku (fD W 1))) (Hp (ku (fD W 1)))],[(f1+1109,aj ⟨Aq W k0 ch::A1 W ak k1 ph::rest⟩ e0 s1),AB ph ch,(ex+1109,bu (tx+1109) (Aa Tx)),(Tx+1109,dg hd (f1+1109) fl xx)],j+1109,tk,.e (.e (.raise (Aa ex)) [(f1+1109,(aj (([Aq W k0 ch,A1 W ak k1 ph]++rest)).toArray e0 s1)),AG ph ch,(ex+1109,(bu (tx+1109) (Aa Tx))),(Tx+1109,⟨(.type "traceback"),none,.fields #[hd,(Aa f1),.none,(.int (↑(f1+1109)) 0),.none,(V6.a xx),(V6.b xx),(V6.c xx),(V6.d xx),(V6.e xx),(V6.f xx)],#[]⟩)] (j+1109) (tk+3))⟩:=bE 98 (Hx 0x14433002020200100443) [] [] 98 (Hx 0x14433002020200100443) [] [] (by kernel_rfl)
end
section
variable {d:Drawn}{os:OsState}{w:World}{b1 b2:Bool}
noncomputable def Hz (f1 l ch ph k0 k1 e0 ex tx Tx:Nat) (hd:Value) (xx:V6) (rest:List DictEntry) (s1:bl) (b0:Args) (c0:Value) (is:List Nat) (nd:is.Nodup) (hl:4=is.length):ay (E2 (W2 w b1 b2)) d os:=
 ay.subB (Nat×Nat) (0,0) (EN (W2 w b1 b2) ex f1) (some (.ref (ex+1109))) (ic (W2 w b1 b2) f1 l b0 c0) is
  [(f1+1109,aj ⟨aa (W2 w b1 b2) aY k0 (.ref (ch+1109))::aa (W2 w b1 b2) ak k1 (.ref (ph+1109))::rest⟩ e0 s1),(ph+1109,ad #[.ref (ch+1109)] 0),(ex+1109,bu (tx+1109) (.ref (Tx+1109))),(Tx+1109,dg hd (f1+1109) .none xx)]
  nd hl (fun _=>.error (.ref (ex+1109)))
  (fun _=>[(f1+1109,aj ⟨aa (W2 w b1 b2) aY k0 (.ref (ch+1109))::aa (W2 w b1 b2) ak k1 (.ref (ph+1109))::rest⟩ e0 s1),(ph+1109,ad #[.ref (ch+1109)] 0),(ex+1109,bu (tx+1109) (.ref (Tx+1109))),(Tx+1109,dg hd (f1+1109) (rawInt (Int.ofNat (f1+1109))) xx)])
  (fun x=>x.1+1109) (fun x=>x.2) (fun _=>True) (fun x=>by rw [<- hl];rfl) (by
   intro ps h g p n tk Q eZ hg hr k
   obtain ⟨j,rfl⟩:=bY (i:=0) hr rfl
   refine ua (D:=fun ps=>wpCode (Mo (E2 (W2 w b1 b2))) ⟨EN (W2 w b1 b2) ex f1,some (.ref (ex+1109)),some (.ref (ex+1109)),(ic (W2 w b1 b2) f1 l b0 c0).zip ps,none⟩ Q p ⟨h,g,d,tk,os⟩) eZ fun p1 p2 p3 p4 p5 p6=>?_
   refine lx rfl (EO hg hr ?_)
   refine Hy p (hl▸Nat.le_refl _) fun pp h2 g2 ag ac=>?_
   refine fun p'=>dG ?_ p'
   refine cV (L:=f1+1109) (cv _ _).2 (ac.own 2 _ _ rfl) (ac.own 3 _ _ rfl) fun p9=>?_
   exact k (j,tk+3) trivial h2 g2 ag ac)
end
theorem uf {d:Drawn}{os:OsState}{w:World}{b1 b2:Bool}{j tk:Nat}{f1 l ph ch k0 k1 e0 ex tx Tx:Nat}{hd fl:Value}{xx:V6}{rest:List DictEntry}{s1:bl}{b0:Args}{c0:Value}{p1 p2 p3 p4 p5:Pos}:
  Qb b1 b2 d os fun b1 b2=>⟨Ad w b1 b2,4,⟨(bQ (W2 w b1 b2) f1),none,none,[(fn (dS (W2 w b1 b2) f1),p1),(.builtin "list.extend.loop" b0,p2),(.builtin "type.__call__" ⟨[.type "list",c0],[]⟩,p3),(fn (bK (W2 w b1 b2) l),p4),(CC,p5)],none⟩,zu (Aa ex) (Ay (W2 w b1 b2) f1) (ku (fD (W2 w b1 b2) 1)),[(f1+1109,aj ⟨AP w b1 b2 k0 ch::A0 w b1 b2 ak k1 ph::rest⟩ e0 s1),AB ph ch,(ex+1109,bu (tx+1109) (Aa Tx)),(Tx+1109,dg hd (f1+1109) fl xx)],j+1109,tk,.c (Hz f1 l ch ph k0 k1 e0 ex tx Tx hd xx rest s1 b0 c0 [0,1,2,3] (by decide) rfl) fun x1=>.e (.e (.raise (Aa ex)) [(f1+1109,aj (([AP w b1 b2 k0 ch,A0 w b1 b2 ak k1 ph]++rest)).toArray e0 (s1)),AS ph ch,(ex+1109,⟨(.type "StopIteration"),none,.fields #[(Aa tx),(Aa Tx),.none,.none,(.bool false),.none],#[]⟩),(Tx+1109,⟨(.type "traceback"),none,.fields #[hd,(Aa f1),.none,(.int (↑(f1+1109)) 0),.none,(V6.a xx),(V6.b xx),(V6.c xx),(V6.d xx),(V6.e xx),(V6.f xx)],#[]⟩)] ((x1.fst)+1109) ((x1.2)))⟩:=bE 78 [3,4,4,0,0,0,3,1] [[3,3,4,4]] [] 78 [3,4,4,0,0,0,3,1] [[3,3,4,4]] [] (by kernel_rfl)
inductive mS (W:World) (ch ph:Nat):Obj->Prop
 | cs {k0 k1 e0:Nat}{s1:bl}:mS W ch ph (aj #[aa W aY k0 (.ref (ch+1109)),aa W ak k1 (.ref (ph+1109))] e0 s1)
 | cA {k0 k1 e0 m0 m1 m2 m3:Nat}{q0 q1 q2 q3:Value}{s1:bl}:mS W ch ph (aj #[aa W aY k0 (.ref (ch+1109)),aa W ak k1 (.ref (ph+1109)),aa W aQ m0 q0,aa W al m1 q1,aa W aG m2 q2,aa W aN m3 q3] e0 s1)
 | cB {k0 k1 e0 m0 m1 m2 m3 m4:Nat}{q0 q1 q2 q3 q4:Value}{s1:bl}:mS W ch ph (aj #[aa W aY k0 (.ref (ch+1109)),aa W ak k1 (.ref (ph+1109)),aa W aQ m0 q0,aa W aG m1 q1,aa W cf m2 q2,aa W al m3 q3,aa W aN m4 q4] e0 s1)
 | cC {k0 k1 e0 m0 m1 m2 m3 m4:Nat}{q0 q1 q2 q3 q4:Value}{s1:bl}:mS W ch ph (aj #[aa W aY k0 (.ref (ch+1109)),aa W ak k1 (.ref (ph+1109)),aa W aQ m0 q0,aa W al m1 q1,aa W aG m2 q2,aa W aN m3 q3,aa W cf m4 q4] e0 s1)
section
variable {d:Drawn}{os:OsState}{w:World}{b1 b2:Bool}{V:Heap}{U:Nat}{R:Result->Shared->Prop}{f1 l ph ch cd sm sd it a da:Nat}{b0:Args}{c0:Value}
noncomputable abbrev jv (W:World) (f1 l:Nat) (b0:Args) (c0:Value):List Code:=[fn (dS W f1),.builtin "list.extend.loop" b0,.builtin "type.__call__" ⟨[.type "list",c0],[]⟩,fn (bK W l),CC]
noncomputable abbrev jw (f1 ph ch cd sm sd it a da l:Nat) (ns:Obj) (zx:Value) (ito:Obj) (es:Array DictEntry) (ep:Nat) (Q3:Array DictEntry) (e3:Nat) (s3:bl):Mm:=[(f1+1109,ns),(ph+1109,ad #[.ref (ch+1109)] 0),(ch+1109,dC cd zx (.ref (sm+1109))),(cd+1109,aA),(sm+1109,cW sd it),(sd+1109,aA),(it+1109,ito),(a+1109,cnt (da+1109) es ep),(l+1109,aj Q3 e3 s3)]
theorem sQ (w:World) (b1 b2:Bool) (f1 l:Nat) (b0:Args) (c0:Value) (ps:List Pos) (hp:ps.length=5):
  (jN ⟨bQ (W2 w b1 b2) f1,none,none,(jv (W2 w b1 b2) f1 l b0 c0).zip ps,none⟩).frames=some (Ay (W2 w b1 b2) f1::[bJ (W2 w b1 b2) l]):=by
 refine nR (D:=fun ps=>(jN ⟨bQ (W2 w b1 b2) f1,none,none,(jv (W2 w b1 b2) f1 l b0 c0).zip ps,none⟩).frames=_) hp fun a b e f g=>?_
 rfl
theorem Cl {i ep e3 j tk:Nat}{o fl ok ov:Value}{es Q3:Array DictEntry}{s3:bl}{ns:Obj}{h:Heap}{g:Array GenState}{p:Pos}{ps:List Pos}(hp:ps.length=5) (hk:U<=9) (hx:es.size<=i) (bz:mS (W2 w b1 b2) ch ph ns) (hg:AllBare g)
  (rep:Rep (Ad w b1 b2) V U (jw f1 ph ch cd sm sd it a da l ns .none (aJ o fl (a+1109) i es.size ep ok ov) es ep Q3 e3 s3) (j+1109) h)
  (fin:∀ (j' a8 x:Nat) (o1 ito:Obj) (fT:bl) (xx:V6) (h':Heap) (g':Array GenState),AllBare g'->Rep (Ad w b1 b2) V U [(f1+1109,o1),AB ph ch,(ch+1109,dC cd .none .none),Ab cd,(sm+1109,cW sd it),Ab sd,(it+1109,ito),Az a da es ep,(l+1109,aj Q3 e3 fT),(x+1109,bu (x+1110) (.ref (x+1111))),(x+1111,dg .none (f1+1109) (rawInt (Int.ofNat (f1+1109))) xx)] (j'+1109) h'->R (.error (Aa x)) ⟨h',g',d,a8,os⟩):
  wpCode (AK w b1 b2) ⟨bQ (W2 w b1 b2) f1,none,none,(jv (W2 w b1 b2) f1 l b0 c0).zip ps,none⟩ R p ⟨h,g,d,tk,os⟩:=by
 have dP:=sQ w b1 b2 f1 l b0 c0 ps hp
 revert dP
 refine nR (D:=fun ps=>(jN ⟨bQ (W2 w b1 b2) f1,none,none,(jv (W2 w b1 b2) f1 l b0 c0).zip ps,none⟩).frames=_->wpCode (Mo (E2 (W2 w b1 b2))) ⟨bQ (W2 w b1 b2) f1,none,none,(jv (W2 w b1 b2) f1 l b0 c0).zip ps,none⟩ R p ⟨h,g,d,tk,os⟩) hp fun p1 p2 p3 p4 p5 dP=>?_
 refine oV rfl (EP hg (rep.sub [] (by simp) (by simp)) ?_)
 refine Hw p (Nat.le_refl _) fun pp h2 g2 ag ac=>fun _=>⟨true,rfl,rfl,?_⟩
 have aV:=rep.join' [] (by decide) rfl ac rfl
 rw [qZ (W2 w b1 b2)]
 have ct:=sO (W2 w b1 b2)
 have cn:=vI (W2 w b1 b2)
 generalize hb:mP (fD (W2 w b1 b2) 1)=tb at ct
 generalize hh:ku (fD (W2 w b1 b2) 1)=th at ct cn
 generalize ED (fD (W2 w b1 b2) 1)=tp at ct
 generalize fD (W2 w b1 b2) 1=S1 at ct ⊢
 induction bz with
 | cs=>
  refine ew ag aV (Well.sub [0,1] rfl (by decide) rfl fun h4 bC=>?_)
  refine EQ _ (Nat.le_refl _) fun p4 h5 g5 kB cx=>fun pb=>?_
  have dO:=bC.join' [0,1] (by decide) rfl cx rfl
  refine jP ct cn fun pc=>fc kB dO ?_
  subst hb
  refine EU hx pc hk fun x1 _ p7 h7 g7 sR gZ=>fun pd=>dG ?_ pd
  refine dh (t:=x1.j+1115) (is:=[0,8]) (ie:=9) gZ dP (aX 0 (cv _ _) rfl (by decide) (aX 8 (fh _ _) rfl (by decide) fj)) rfl rfl (by decide) fun f x h8 i7 pe=>?_
  refine kx sR i7 (Well.sub [0,1,9,10] rfl (by decide) rfl fun h9 jQ=>?_)
  subst hh
  refine uf (ex:=x1.j+5) (tx:=x1.j+6) (Tx:=x1.j+7) _ (Nat.le_refl _) fun x2 _ pf sS sT mT jx=>fun pg=>dG ?_ pg
  have dT:=jQ.join' [0,1,9,10] (by decide) rfl jx rfl
  exact cV (L:=f1+1109) (cv _ _).2 (dT.own 9 _ _ rfl) (dT.own 10 _ _ rfl) fun _=>fin x2.1 x2.2 (x1.j+5) _ x1.o (f 8) x sS sT mT dT
 | cA=>
  refine ew ag aV (Well.sub [0,1] rfl (by decide) rfl fun h4 bC=>?_)
  refine ER _ (Nat.le_refl _) fun p4 h5 g5 kB cx=>fun pb=>?_
  have dO:=bC.join' [0,1] (by decide) rfl cx rfl
  refine jP ct cn fun pc=>fc kB dO ?_
  subst hb
  refine EV hx pc hk fun x1 _ p7 h7 g7 sR gZ=>fun pd=>dG ?_ pd
  refine dh (t:=x1.j+1115) (is:=[0,8]) (ie:=9) gZ dP (aX 0 (cv _ _) rfl (by decide) (aX 8 (fh _ _) rfl (by decide) fj)) rfl rfl (by decide) fun f x h8 i7 pe=>?_
  refine kx sR i7 (Well.sub [0,1,9,10] rfl (by decide) rfl fun h9 jQ=>?_)
  subst hh
  refine uf (ex:=x1.j+5) (tx:=x1.j+6) (Tx:=x1.j+7) _ (Nat.le_refl _) fun x2 _ pf sS sT mT jx=>fun pg=>dG ?_ pg
  have dT:=jQ.join' [0,1,9,10] (by decide) rfl jx rfl
  exact cV (L:=f1+1109) (cv _ _).2 (dT.own 9 _ _ rfl) (dT.own 10 _ _ rfl) fun _=>fin x2.1 x2.2 (x1.j+5) _ x1.o (f 8) x sS sT mT dT
 | cB=>
  refine ew ag aV (Well.sub [0,1] rfl (by decide) rfl fun h4 bC=>?_)
  refine ES _ (Nat.le_refl _) fun p4 h5 g5 kB cx=>fun pb=>?_
  have dO:=bC.join' [0,1] (by decide) rfl cx rfl
  refine jP ct cn fun pc=>fc kB dO ?_
  subst hb
  refine EW hx pc hk fun x1 _ p7 h7 g7 sR gZ=>fun pd=>dG ?_ pd
  refine dh (t:=x1.j+1115) (is:=[0,8]) (ie:=9) gZ dP (aX 0 (cv _ _) rfl (by decide) (aX 8 (fh _ _) rfl (by decide) fj)) rfl rfl (by decide) fun f x h8 i7 pe=>?_
  refine kx sR i7 (Well.sub [0,1,9,10] rfl (by decide) rfl fun h9 jQ=>?_)
  subst hh
  refine uf (ex:=x1.j+5) (tx:=x1.j+6) (Tx:=x1.j+7) _ (Nat.le_refl _) fun x2 _ pf sS sT mT jx=>fun pg=>dG ?_ pg
  have dT:=jQ.join' [0,1,9,10] (by decide) rfl jx rfl
  exact cV (L:=f1+1109) (cv _ _).2 (dT.own 9 _ _ rfl) (dT.own 10 _ _ rfl) fun _=>fin x2.1 x2.2 (x1.j+5) _ x1.o (f 8) x sS sT mT dT
 | cC=>
  refine ew ag aV (Well.sub [0,1] rfl (by decide) rfl fun h4 bC=>?_)
  refine ET _ (Nat.le_refl _) fun p4 h5 g5 kB cx=>fun pb=>?_
  have dO:=bC.join' [0,1] (by decide) rfl cx rfl
  refine jP ct cn fun pc=>fc kB dO ?_
  subst hb
  refine EX hx pc hk fun x1 _ p7 h7 g7 sR gZ=>fun pd=>dG ?_ pd
  refine dh (t:=x1.j+1115) (is:=[0,8]) (ie:=9) gZ dP (aX 0 (cv _ _) rfl (by decide) (aX 8 (fh _ _) rfl (by decide) fj)) rfl rfl (by decide) fun f x h8 i7 pe=>?_
  refine kx sR i7 (Well.sub [0,1,9,10] rfl (by decide) rfl fun h9 jQ=>?_)
  subst hh
  refine uf (ex:=x1.j+5) (tx:=x1.j+6) (Tx:=x1.j+7) _ (Nat.le_refl _) fun x2 _ pf sS sT mT jx=>fun pg=>dG ?_ pg
  have dT:=jQ.join' [0,1,9,10] (by decide) rfl jx rfl
  exact cV (L:=f1+1109) (cv _ _).2 (dT.own 9 _ _ rfl) (dT.own 10 _ _ rfl) fun _=>fin x2.1 x2.2 (x1.j+5) _ x1.o (f 8) x sS sT mT dT
end
section
variable {As:List Nat}{E:En}{T i j k n t1 tk tz uz z:Nat}{g:Array GenState}{h h' V:Heap}{kv kz vv:Int}{m:Mm}{ns x:Obj}{o ok ov:Value}{p:Pos}
theorem aD.step {K:Nat}(ho:aD h As o) (r:Rep E h k m n h') (hk:k<=K) (hA:(List.range K).map (fun i=>(Y m i).map (·.1))=As.map some):aD h' As o:=by
 rcases ho with rfl | ⟨a,oa,rfl,ha,hn⟩
 ·exact .inl rfl
 ·refine .inr ⟨a,oa,rfl,r.keep a oa ha fun i b x hi hm e=>?_,hn⟩
  subst e
  have z:=congrArg (fun l=>l[i]?) hA
  simp only [List.getElem?_map,List.getElem?_range (Nat.lt_of_lt_of_le hi hk),Option.map_some,hm] at z
  cases q:As[i]? with
  | none=>rw [q] at z;cases z
  | some c=>
   rw [q] at z
   have z:b=c:=Option.some.inj (Option.some.inj z)
   exact hn (z▸List.mem_of_getElem? q)
theorem aD.new {K:Nat}(r:Rep E V k m n h) (hA:(List.range K).map (fun i=>(Y m i).map (·.1))=As.map some) (hT:Y m K=some (T,x)):aD h As (rawInt (Int.ofNat T)):=by
 refine .inr ⟨T,x,rfl,r.own _ _ _ hT,fun hm=>?_⟩
 obtain ⟨i,hi⟩:=List.getElem?_of_mem hm
 have z:=congrArg (fun l=>l[i]?) hA
 simp only [List.getElem?_map,hi,Option.map_some] at z
 by_cases h1:i < K
 ·rw [List.getElem?_range h1,Option.map_some] at z
  cases q:Y m i with
  | none=>rw [q] at z;cases z
  | some y=>
   rw [q] at z
   obtain ⟨b,o'⟩:=y
   have e:b=T:=Option.some.inj (Option.some.inj z)
   subst e
   have:=r.apart i K b o' x q hT
   lia
 ·rw [List.getElem?_eq_none (by rw [List.length_range];lia)] at z
  cases z
section
variable {d:Drawn}{os:OsState}{w:World}{b1 b2:Bool}{V:Heap}{U:Nat}{R:Result->Shared->Prop}{f1 l ph ch cd sm sd it a da:Nat}{b0:Args}{c0:Value}{ep e3:Nat}{es Q3:Array DictEntry}
noncomputable abbrev sU (f1 ph ch cd sm sd it a l:Nat):List Nat:=[f1+1109,ph+1109,ch+1109,cd+1109,sm+1109,sd+1109,it+1109,a+1109,l+1109]
noncomputable def cM (es:Array DictEntry) (i z:Nat):Prop:=∀ u,u < z->∃ kv t1 t2,es[i+u]?=some ⟨hashInt kv,.int kv t1,.int 0 t2⟩
noncomputable def HA (W:World) (V:Heap) (U:Nat) (R:Result->Shared->Prop) (d:Drawn) (os:OsState) (f1 ph ch cd sm sd it a da l ep e3:Nat) (es Q3:Array DictEntry) (o:Value) (i:Nat) (kv vv:Int) (t1:Nat) (E:En):Prop:=
 ∀ (j' a8 r rd tc T:Nat) (u v o' f' fq jt:Value) (o1:Obj) (fT:bl) (h':Heap) (g':Array GenState),AllBare g'->(o'=rawInt (Int.ofNat (T+1109))∨(o'=o/\o≠.none))->
  Rep E V U (jw f1 ph ch cd sm sd it a da l o1 (.ref (r+1109)) (aJ o' f' (a+1109) (i+1) es.size ep fq jt) es ep Q3 e3 fT++[(T+1109,bb u v),(rd+1109,aA),(r+1109,gD rd (vv - 1) tc kv t1)]) (j'+1109) h'->R (.ok (.ret (.int kv t1))) ⟨h',g',d,a8,os⟩
theorem cM.tail (hz:cM es i (z+1)):cM es (i+1) z:=fun u hu=>by
 obtain ⟨k,t,t',e⟩:=hz (u+1) (Nat.succ_lt_succ hu)
 exact ⟨k,t,t',by rw [show i+1+u=i+(u+1) from by lia];exact e⟩
theorem ra {fl:Value}{s3:bl}{ps:List Pos}(hp:ps.length=5) (rb:es[i]?=some ⟨hashInt kz,.int kz tz,.int 0 uz⟩)
  (bz:mS (W2 w b1 b2) ch ph ns) (hg:AllBare g) (ho:aD h (sU f1 ph ch cd sm sd it a l) o) (rep:Rep (Ad w b1 b2) V U (jw f1 ph ch cd sm sd it a da l ns .none (aJ o fl (a+1109) i es.size ep ok ov) es ep Q3 e3 s3) (j+1109) h)
  (next:∀ (o' f' fq jt:Value) (pp:Pos) (h2:Heap) (g2:Array GenState) (j2 gz:Nat) (o1:Obj) (fT:bl),(o'=rawInt (Int.ofNat (j+1111))∨(o'=o/\o≠.none))->aD h2 (sU f1 ph ch cd sm sd it a l) o'->mS (W2 w b1 b2) ch ph o1->AllBare g2->Rep (Ad w b1 b2) h 9 (jw f1 ph ch cd sm sd it a da l o1 .none (aJ o' f' (a+1109) (i+1) es.size ep fq jt) es ep Q3 e3 fT++[(j+1111,bb (.int kz tz) (.int 0 uz))]) (j2+1109) h2->wpCode (AK w b1 b2) ⟨bQ (W2 w b1 b2) f1,none,none,(jv (W2 w b1 b2) f1 l b0 c0).zip ps,none⟩ R pp ⟨h2,g2,d,gz,os⟩):
  wpCode (AK w b1 b2) ⟨bQ (W2 w b1 b2) f1,none,none,(jv (W2 w b1 b2) f1 l b0 c0).zip ps,none⟩ R p ⟨h,g,d,tk,os⟩:=by
 have r0:=rep.sub [0,1,2,3,4,5,6,7,8] (aE rfl) (by decide)
 refine bc (E:=E2 (W2 w b1 b2)) (V:=h) (U:=9) hg r0 ?_
 obtain ⟨p1,p2,p3,p4,p5,rfl⟩:∃ a b c d e,ps=[a,b,c,d,e]:=nR (D:=fun ps=>∃ a b c d e,ps=[a,b,c,d,e]) hp fun a b c d e=>⟨a,b,c,d,e,rfl⟩
 have go:∀ (x1:b6) (pp:Pos) (h2:Heap) (g2:Array GenState) (j2 gz:Nat) (o1:Obj) (fT:bl),(x1.o=rawInt (Int.ofNat (j+1111))∨(x1.o=o/\o≠.none))->mS (W2 w b1 b2) ch ph o1->AllBare g2->Rep (E2 (W2 w b1 b2)) h 9 (jw f1 ph ch cd sm sd it a da l o1 .none (aJ x1.o x1.f (a+1109) (i+1) es.size ep x1.ok x1.ov) es ep Q3 e3 fT++[(j+1111,bb (.int kz tz) (.int 0 uz))]) (j2+1109) h2->wpCode (Mo (E2 (W2 w b1 b2))) ⟨bQ (W2 w b1 b2) f1,none,none,(jv (W2 w b1 b2) f1 l b0 c0).zip [p1,p2,p3,p4,p5],none⟩ R pp ⟨h2,g2,d,gz,os⟩:=by
  intro x1 pp h2 g2 j2 gz o1 fT sx fS ag ac
  refine next x1.o x1.f x1.ok x1.ov pp h2 g2 j2 gz o1 fT sx ?_ fS ag ac
  rcases sx with e | ⟨e,_⟩
  ·rw [e];exact aD.new (K:=9) ac rfl rfl
  ·rw [e];exact ho.step (K:=9) ac (Nat.le_refl _) rfl
 induction bz with
 | cs=>exact EG rb p (Nat.le_refl _) ⟨⟨Nat.le_refl _,ho,by simp⟩,fun x1 sx x2 _ x3 _ pp h2 g2 ag ac=>go x1 pp h2 g2 (x3.j+4) _ _ _ sx .cB ag ac⟩
 | cA=>exact EI rb p (Nat.le_refl _) ⟨⟨Nat.le_refl _,ho,by simp⟩,fun x1 sx x2 _ x3 _ pp h2 g2 ag ac=>go x1 pp h2 g2 (x3.j+4) _ _ _ sx .cC ag ac⟩
 | cB=>exact EK rb p (Nat.le_refl _) ⟨⟨Nat.le_refl _,ho,by simp⟩,fun x1 sx x2 _ x3 _ pp h2 g2 ag ac=>go x1 pp h2 g2 (x3.j+4) _ _ _ sx .cB ag ac⟩
 | cC=>exact EM rb p (Nat.le_refl _) ⟨⟨Nat.le_refl _,ho,by simp⟩,fun x1 sx x2 _ x3 _ pp h2 g2 ag ac=>go x1 pp h2 g2 (x3.j+4) _ _ _ sx .cC ag ac⟩
theorem nT {t2:Nat}{ps:List Pos}(hp:ps.length=5) (h0:0 < vv) (h9:vv<=999999):∀ (z:Nat) {V:Heap}{U i j tk:Nat}{R:Result->Shared->Prop}{o fl ok ov:Value}{s3:bl}{ns:Obj}{h:Heap}{g:Array GenState}{p:Pos},U<=9->cM es i z->es[i+z]?=some ⟨hashInt kv,.int kv t1,.int vv t2⟩->
  mS (W2 w b1 b2) ch ph ns->AllBare g->aD h (sU f1 ph ch cd sm sd it a l) o->
  Rep (Ad w b1 b2) V U (jw f1 ph ch cd sm sd it a da l ns .none (aJ o fl (a+1109) i es.size ep ok ov) es ep Q3 e3 s3) (j+1109) h->
  HA (W2 w b1 b2) V U R d os f1 ph ch cd sm sd it a da l ep e3 es Q3 o (i+z) kv vv t1 (Ad w b1 b2)->
  wpCode (AK w b1 b2) ⟨bQ (W2 w b1 b2) f1,none,none,(jv (W2 w b1 b2) f1 l b0 c0).zip ps,none⟩ R p ⟨h,g,d,tk,os⟩:=by
 refine nR (D:=fun ps=>∀ (z:Nat) {V:Heap}{U i j tk:Nat}{R:Result->Shared->Prop}{o fl ok ov:Value}{s3:bl}{ns:Obj}{h:Heap}{g:Array GenState}{p:Pos},U<=9->cM es i z->es[i+z]?=some ⟨hashInt kv,.int kv t1,.int vv t2⟩->
  mS (W2 w b1 b2) ch ph ns->AllBare g->aD h (sU f1 ph ch cd sm sd it a l) o->
  Rep (E2 (W2 w b1 b2)) V U (jw f1 ph ch cd sm sd it a da l ns .none (aJ o fl (a+1109) i es.size ep ok ov) es ep Q3 e3 s3) (j+1109) h->
  HA (W2 w b1 b2) V U R d os f1 ph ch cd sm sd it a da l ep e3 es Q3 o (i+z) kv vv t1 (E2 (W2 w b1 b2))->
  wpCode (Mo (E2 (W2 w b1 b2))) ⟨bQ (W2 w b1 b2) f1,none,none,(jv (W2 w b1 b2) f1 l b0 c0).zip ps,none⟩ R p ⟨h,g,d,tk,os⟩) hp fun p1 p2 p3 p4 p5 z=>?_
 have hb:decide (vv>999999)=false:=decide_eq_false (by lia)
 have hc:decide (vv < -999999)=false:=decide_eq_false (by lia)
 have hd:decide (vv+0 < 0)=false:=decide_eq_false (by lia)
 have he:(vv+0==0)=false:=beq_eq_false_iff_ne.mpr (by lia)
 have hf:decide (vv+0>0)=true:=decide_eq_true (by lia)
 induction z with
 | zero=>
  intro V U i j tk R o fl ok ov s3 ns h g p hk _ hx bz hg ho rep fin
  have r0:=rep.sub [0,1,2,3,4,5,6,7,8] (aE rfl) (by decide)
  refine bc (E:=E2 (W2 w b1 b2)) (V:=h) (U:=9) hg r0 ?_
  have go:∀ (x1:b6) (pp:Pos) (h2:Heap) (g2:Array GenState) (gz:Nat) (o1:Obj),(x1.o=rawInt (Int.ofNat (j+1111))∨(x1.o=o/\o≠.none))->AllBare g2->Rep (E2 (W2 w b1 b2)) h 9 (jw f1 ph ch cd sm sd it a da l o1 (.ref (j+1114)) (aJ x1.o x1.f (a+1109) (i+1) es.size ep x1.ok x1.ov) es ep Q3 e3 s3++[(j+1111,bb (.int kv t1) (.int vv t2)),(j+1113,aA),(j+1114,gD (j+4) (vv+0 - 1) (tk+43) kv t1)]) (j+20+1109) h2->R (.ok (.ret (.int kv t1))) ⟨h2,g2,d,gz,os⟩:=by
   intro x1 pp h2 g2 gz o1 s1 ag ac
   rw [Int.add_zero] at ac
   have aV:=rep.join' [0,1,2,3,4,5,6,7,8] (by decide) rfl ac rfl
   exact fin (j+20) gz (j+5) (j+4) (tk+43) (j+2) _ _ x1.o x1.f x1.ok x1.ov o1 s3 h2 g2 ag s1 aV
  induction bz with
  | cs=>exact EF hx hb hc hd he hf p (Nat.le_refl _) ⟨⟨Nat.le_refl _,ho,by simp⟩,fun x1 sx x2 _ pp h2 g2 ag ac=>go x1 pp h2 g2 _ _ sx ag ac⟩
  | cA=>exact EH hx hb hc hd he hf p (Nat.le_refl _) ⟨⟨Nat.le_refl _,ho,by simp⟩,fun x1 sx x2 _ pp h2 g2 ag ac=>go x1 pp h2 g2 _ _ sx ag ac⟩
  | cB=>exact EJ hx hb hc hd he hf p (Nat.le_refl _) ⟨⟨Nat.le_refl _,ho,by simp⟩,fun x1 sx x2 _ pp h2 g2 ag ac=>go x1 pp h2 g2 _ _ sx ag ac⟩
  | cC=>exact EL hx hb hc hd he hf p (Nat.le_refl _) ⟨⟨Nat.le_refl _,ho,by simp⟩,fun x1 sx x2 _ pp h2 g2 ag ac=>go x1 pp h2 g2 _ _ sx ag ac⟩
 | succ z ih=>
  intro V U i j tk R o fl ok ov s3 ns h g p hk hz hx bz hg ho rep fin
  obtain ⟨kz,tz,uz,rb⟩:=hz 0 (Nat.succ_pos _)
  have e1:i+1+z=i+(z+1):=by lia
  refine ra (ps:=[p1,p2,p3,p4,p5]) rfl rb bz hg ho rep fun o2 f2 JI JJ pp h2 g2 j2 gz o1 fT sx sV fS ag ac=>?_
  have aV:=rep.join' [0,1,2,3,4,5,6,7,8] (by decide) rfl ac rfl
  refine ih (V:=h2) (U:=9) (Nat.le_refl _) (hz.tail) (by rw [e1];exact hx) fS ag sV (ac.sub [0,1,2,3,4,5,6,7,8] (aE rfl) (by decide)) ?_
  intro j' a8 r rd tc T u v o' f' fq jt o3 s4 h' g' bn zC bC
  rw [e1] at bC
  have cx:=aV.join' [0,1,2,3,4,5,6,7,8] (by decide) rfl bC rfl
  rcases zC with zC | ⟨zC,_⟩
  ·exact fin j' a8 r rd tc T u v o' f' fq jt o3 s4 h' g' bn (.inl zC) (cx.pick [0,1,2,3,4,5,6,7,8,10,11,12] 9 (by decide) (by decide) hk rfl)
  ·refine fin j' a8 r rd tc (j+2) (.int kz tz) (.int 0 uz) o' f' fq jt o3 s4 h' g' bn ?_ (cx.pick [0,1,2,3,4,5,6,7,8,9,11,12] 9 (by decide) (by decide) hk rfl)
   rw [zC]
   exact sx
theorem rc {ps:List Pos}(hp:ps.length=5):∀ (z:Nat) {V:Heap}{U i j tk:Nat}{R:Result->Shared->Prop}{o fl ok ov:Value}{s3:bl}{ns:Obj}{h:Heap}{g:Array GenState}{p:Pos},U<=9->cM es i z->es.size<=i+z->
  mS (W2 w b1 b2) ch ph ns->AllBare g->aD h (sU f1 ph ch cd sm sd it a l) o->
  Rep (Ad w b1 b2) V U (jw f1 ph ch cd sm sd it a da l ns .none (aJ o fl (a+1109) i es.size ep ok ov) es ep Q3 e3 s3) (j+1109) h->
  (∀ (j' a8 x:Nat) (o1 ito:Obj) (fT:bl) (xx:V6) (h':Heap) (g':Array GenState),AllBare g'->Rep (Ad w b1 b2) V U [(f1+1109,o1),AB ph ch,(ch+1109,dC cd .none .none),Ab cd,(sm+1109,cW sd it),Ab sd,(it+1109,ito),Az a da es ep,(l+1109,aj Q3 e3 fT),(x+1109,bu (x+1110) (.ref (x+1111))),(x+1111,dg .none (f1+1109) (rawInt (Int.ofNat (f1+1109))) xx)] (j'+1109) h'->R (.error (Aa x)) ⟨h',g',d,a8,os⟩)->
  wpCode (AK w b1 b2) ⟨bQ (W2 w b1 b2) f1,none,none,(jv (W2 w b1 b2) f1 l b0 c0).zip ps,none⟩ R p ⟨h,g,d,tk,os⟩:=by
 intro z
 induction z with
 | zero=>
  intro V U i j tk R o fl ok ov s3 ns h g p hk _ hx bz hg ho rep fin
  exact Cl hp hk hx bz hg rep fin
 | succ z ih=>
  intro V U i j tk R o fl ok ov s3 ns h g p hk hz hx bz hg ho rep fin
  obtain ⟨kz,tz,uz,rb⟩:=hz 0 (Nat.succ_pos _)
  refine ra hp rb bz hg ho rep fun o2 f2 JI JJ pp h2 g2 j2 gz o1 fT sx sV fS ag ac=>?_
  have aV:=rep.join' [0,1,2,3,4,5,6,7,8] (by decide) rfl ac rfl
  refine ih (V:=h2) (U:=9) (Nat.le_refl _) (hz.tail) (by lia) fS ag sV (ac.sub [0,1,2,3,4,5,6,7,8] (aE rfl) (by decide)) ?_
  intro j' a8 x o3 ito s4 xx h' g' bn bC
  have cx:=aV.join' [0,1,2,3,4,5,6,7,8] (by decide) rfl bC rfl
  exact fin j' a8 x o3 ito s4 xx h' g' bn (cx.pick [0,1,2,3,4,5,6,7,8,10,11] 9 (by decide) (by decide) hk rfl)
end
end
theorem mU {m:Mm}:∀ {is:List Nat}{b:Nat},b∈(aZ m is).map (·.1)->∃ i x,Y m i=some (b,x)
 | [],b,h=>nomatch h
 | i::is,b,h=>by
  unfold aZ at h
  cases q:Y m i with
  | none=>rw [q] at h;exact mU h
  | some y=>
   rw [q] at h
   rcases List.mem_cons.mp h with rfl | h
   ·exact ⟨i,y.2,q⟩
   ·exact mU h
theorem aD.all {E:En}{V h:Heap}{k n K:Nat}{m bm:Mm}{is As:List Nat}{o:Value}(ho:aD V As o) (r:Rep E V k m n h) (hk:k<=K) (hA:(List.range K).map (fun i=>(Y m i).map (·.1))=As.map some) (es:aZ m is=bm):aD h (bm.map (·.1)) o:=by
 have hs:=ho.step r hk hA
 rcases ho with rfl | ⟨a,oa,rfl,ha,hn⟩
 ·exact .inl rfl
 ·have iR:=Heap.lt_size ha
  have key:a ∉ bm.map (·.1):=fun hm=>by
   rw [<- es] at hm
   obtain ⟨i,x,e⟩:=mU hm
   by_cases hi:i < k
   ·have z:=congrArg (fun l=>l[i]?) hA
    simp only [List.getElem?_map,List.getElem?_range (Nat.lt_of_lt_of_le hi hk),Option.map_some,e] at z
    cases q:As[i]? with
    | none=>rw [q] at z;cases z
    | some c=>
     rw [q] at z
     have z:a=c:=Option.some.inj (Option.some.inj z)
     exact hn (z▸List.mem_of_getElem? q)
   ·have:=r.fresh i a x (Nat.le_of_not_lt hi) e
    lia
  rcases hs with e | ⟨a',oa',e,ha',_⟩
  ·exact absurd e (fun z=>nomatch z)
  ·have e2:a=a':=by
    have:(Int.ofNat a)=Int.ofNat a':=by injection e
    exact Int.ofNat.inj this
   subst e2
   exact .inr ⟨a,oa',rfl,ha',key⟩
section
variable {E:En}{d:Drawn}{os:OsState}
noncomputable def CH.subO (o:Value) (As:List Nat) (K:Nat) (X:Type) (x0:X) (code:Code) (bs:List Code) (is:List Nat) (bm:Mm) (nd:is.Nodup) (hl:ah bm=is.length) (out:X->Result) (m':X->Mm) (n' a8:X->Nat) (says:X->Prop)
  (same:∀ x,((m' x).take is.length).map (·.1)=bm.map (·.1))
  (H:∀ (ps:List Pos) (h:Heap) (g:Array GenState) (p:Pos) (n tk:Nat) (Q:Result->Shared->Prop),ps.length=bs.length->E.G g->aD h (bm.map (·.1)) o->Rep E h is.length bm n h->
   (∀ x,says x->∀ h' g',E.G g'->Rep E h is.length (m' x) (n' x) h'->Q (out x) ⟨h',g',d,a8 x,os⟩)->wpCode (Mo E) ⟨code,none,none,bs.zip ps,none⟩ Q p ⟨h,g,d,tk,os⟩):CH E d os where
 X:=X
 x0:=x0
 L:=_
 look q:=(q.code,is.map (Y q.m),q.Γ.handled,q.Γ.own,q.Γ.past,q.Γ.below.map (·.1),(List.range K).map fun i=>(Y q.m i).map (·.1))
 v:=(code,bm.map some,none,none,none,bs,As.map some)
 ans x q:=⟨C9 (out x),q.p,eC q.m is (m' x),n' x,a8 x,[]⟩
 says:=says
 gd V U:=U<=K/\aD V As o
 holds:=by
  intro V U ⟨hk,ho⟩ hs q Q h g e hc hg hr kk
  simp only [Prod.mk.injEq] at e
  obtain ⟨e1,e2,e3,e4,e5,e6,e8⟩:=e
  have es:=eD e2
  have f8:ah (aZ q.m is)=is.length:=by rw [es];exact hl
  have dK:=hr.sub is (aE f8) nd
  rw [es] at dK
  have e7:q.Γ=⟨code,none,none,bs.zip (q.Γ.below.map (·.2)),none⟩:=by
   have z:=ju q.Γ.below
   rw [e6] at z
   have c:=hc.trans e1
   generalize q.Γ.below.map (·.2)=l at z
   generalize q.Γ=Γ at c e3 e4 e5 z
   obtain ⟨a,b,c',l',f⟩:=Γ
   dsimp only at c e3 e4 e5 z
   subst c e3 e4 e5 z
   rfl
  have z:=H (q.Γ.below.map (·.2)) h g q.p q.n q.tk Q (by rw [List.length_map,<- e6,List.length_map]) hg (ho.all hr hk e8 es) dK fun x sx h' g' bn bS=>by
   have k:=kk x sx h' g' bn (hr.join' is nd f8 bS (by rw [es];exact same x))
   dsimp only at k
   cases q:out x with
   | ok f=>rw [q] at k;exact k
   | error e=>rw [q] at k;exact k
  rw [<- e7] at z
  exact z
end
structure iZ where
 j:Nat
 tk:Nat
 r:Nat
 rd:Nat
 tc:Nat
 T:Nat
 u:Value
 v:Value
 o:Value
 f:Value
 ok:Value
 ov:Value
 o1:Obj
 s3:bl
section
variable {d:Drawn}{os:OsState}{w:World}{b1 b2:Bool}
noncomputable def JK (f1 l ph ch cd sm sd it a da ep i k0 k1 e0 e3:Nat) (o fl ok ov:Value) (es Q3:Array DictEntry) (s3:bl) (b0:Args) (c0:Value) (kv vv:Int) (t1 t2 z:Nat) (h0:0 < vv) (h9:vv<=999999) (hz:cM es i z) (hx:es[i+z]?=some ⟨hashInt kv,.int kv t1,.int vv t2⟩) (As:List Nat) (K:Nat) (is:List Nat) (nd:is.Nodup) (hl:9=is.length):CH (E2 (W2 w b1 b2)) d os:=
 CH.subO o As K iZ ⟨0,0,0,0,0,0,.none,.none,.none,.none,.none,.none,aA,#[]⟩ (bQ (W2 w b1 b2) f1) (jv (W2 w b1 b2) f1 l b0 c0) is
  (jw f1 ph ch cd sm sd it a da l (aL [aa (W2 w b1 b2) aY k0 (.ref (ch+1109)),aa (W2 w b1 b2) ak k1 (.ref (ph+1109))] e0) .none (aJ o fl (a+1109) i es.size ep ok ov) es ep Q3 e3 s3)
  nd hl (fun _=>.ok (.ret (.int kv t1)))
  (fun x=>jw f1 ph ch cd sm sd it a da l x.o1 (.ref (x.r+1109)) (aJ x.o x.f (a+1109) (i+z+1) es.size ep x.ok x.ov) es ep Q3 e3 x.s3++[(x.T+1109,bb x.u x.v),(x.rd+1109,aA),(x.r+1109,gD x.rd (vv - 1) x.tc kv t1)])
  (fun x=>x.j+1109) (fun x=>x.tk) (fun x=>x.o=rawInt (Int.ofNat (x.T+1109))∨(x.o=o/\o≠.none)) (fun x=>by rw [<- hl];rfl) (by
   intro ps h g p n tk Q eZ hg ho hr k
   obtain ⟨j,rfl⟩:=bY (i:=0) hr rfl
   exact nT eZ h0 h9 z (hl▸Nat.le_refl _) hz hx (.cs (s1:=#[])) hg ho hr fun j' a8 r rd tc T u v o' f' fq jt o1 fT h' g' bn so bF=>k ⟨j',a8,r,rd,tc,T,u,v,o',f',fq,jt,o1,fT⟩ so h' g' bn bF)
end
theorem aD.mono {h:Heap}{As Bs:List Nat}{o:Value}(ho:aD h As o) (hs:∀ b∈Bs,b∈As):aD h Bs o:=by
 rcases ho with rfl | ⟨a,oa,rfl,ha,hn⟩
 ·exact .inl rfl
 ·exact .inr ⟨a,oa,rfl,ha,fun hm=>hn (hs _ hm)⟩
structure dZ where
 j:Nat
 tk:Nat
 x:Nat
 o1:Obj
 ito:Obj
 s3:bl
 xx:V6
section
variable {d:Drawn}{os:OsState}{w:World}{b1 b2:Bool}
noncomputable abbrev EY (W:World) (ch ph k0 k1 e0:Nat):Obj:=aL [aa W aY k0 (.ref (ch+1109)),aa W ak k1 (.ref (ph+1109))] e0
noncomputable abbrev vJ (r rd tc te:Nat) (el:Int):Mm:=[(r+1109,gD rd 0 tc el te),(rd+1109,aA)]
noncomputable def HB (f1 l ph ch cd sm sd it a da ep i k0 k1 e0 e3 r rd tc te:Nat) (el:Int) (o fl ok ov:Value) (es Q3:Array DictEntry) (s3:bl) (b0:Args) (c0:Value) (kv vv:Int) (t1 t2 z:Nat) (h0:0 < vv) (h9:vv<=999999) (hz:cM es i z) (hx:es[i+z]?=some ⟨hashInt kv,.int kv t1,.int vv t2⟩) (As:List Nat) (K:Nat) (is:List Nat) (nd:is.Nodup) (hl:11=is.length):CH (E2 (W2 w b1 b2)) d os:=
 CH.subO o As K iZ ⟨0,0,0,0,0,0,.none,.none,.none,.none,.none,.none,aA,#[]⟩ (bQ (W2 w b1 b2) f1) (jv (W2 w b1 b2) f1 l b0 c0) is
  (jw f1 ph ch cd sm sd it a da l (EY (W2 w b1 b2) ch ph k0 k1 e0) (.ref (r+1109)) (aJ o fl (a+1109) i es.size ep ok ov) es ep Q3 e3 s3++vJ r rd tc te el)
  nd hl (fun _=>.ok (.ret (.int kv t1)))
  (fun x=>jw f1 ph ch cd sm sd it a da l x.o1 (.ref (x.r+1109)) (aJ x.o x.f (a+1109) (i+z+1) es.size ep x.ok x.ov) es ep Q3 e3 x.s3++vJ r rd tc te el++[(x.T+1109,bb x.u x.v),(x.rd+1109,aA),(x.r+1109,gD x.rd (vv - 1) x.tc kv t1)])
  (fun x=>x.j+1109) (fun x=>x.tk) (fun x=>x.o=rawInt (Int.ofNat (x.T+1109))∨(x.o=o/\o≠.none)) (fun x=>by rw [<- hl];rfl) (by
   intro ps h g p n tk Q eZ hg ho hr k
   obtain ⟨j,rfl⟩:=bY (i:=0) hr rfl
   have EZ:ps.length=5:=eZ
   refine bc (E:=E2 (W2 w b1 b2)) hg hr ?_
   revert k
   refine nR (D:=fun ps=>_->Well _ _ _ _ _ _ ⟨⟨_,_,_,_,_⟩,_,_,_,_,_,_⟩) EZ fun p1 p2 p3 p4 p5=>?_
   intro k
   refine zB p (hl▸Nat.le_refl _) fun x1 _ pp h2 g2 ag ac=>?_
   have sV:aD h2 (sU f1 ph ch cd sm sd it a l) o:=(ho.step (K:=11) ac (hl▸Nat.le_refl _) rfl).mono (by intro b hb;exact List.mem_append_left _ hb)
   refine nT (ps:=[p1,p2,p3,p4,p5]) rfl h0 h9 z (Nat.le_refl _) hz hx .cA ag sV (ac.sub [0,1,2,3,4,5,6,7,8] (aE rfl) (by decide)) fun j' a8 r' JL JM T u v o' f' fq jt o1 fT h' g' bn so bF=>?_
   exact k ⟨j',a8,r',JL,JM,T,u,v,o',f',fq,jt,o1,fT⟩ so h' g' bn (ac.join' [0,1,2,3,4,5,6,7,8] (by decide) rfl bF rfl))
noncomputable def JN (f1 l ph ch cd sm sd it a da ep i k0 k1 e0 e3:Nat) (o fl ok ov:Value) (es Q3:Array DictEntry) (s3:bl) (b0:Args) (c0:Value) (z:Nat) (hz:cM es i z) (hx:es.size<=i+z) (As:List Nat) (K:Nat) (is:List Nat) (nd:is.Nodup) (hl:9=is.length):CH (E2 (W2 w b1 b2)) d os:=
 CH.subO o As K dZ ⟨0,0,0,aA,aA,#[],⟨.none,.none,.none,.none,.none,.none⟩⟩ (bQ (W2 w b1 b2) f1) (jv (W2 w b1 b2) f1 l b0 c0) is
  (jw f1 ph ch cd sm sd it a da l (EY (W2 w b1 b2) ch ph k0 k1 e0) .none (aJ o fl (a+1109) i es.size ep ok ov) es ep Q3 e3 s3)
  nd hl (fun x=>.error (.ref (x.x+1109)))
  (fun x=>[(f1+1109,x.o1),(ph+1109,ad #[.ref (ch+1109)] 0),(ch+1109,dC cd .none .none),(cd+1109,aA),(sm+1109,cW sd it),(sd+1109,aA),(it+1109,x.ito),(a+1109,cnt (da+1109) es ep),(l+1109,aj Q3 e3 x.s3),(x.x+1109,bu (x.x+1110) (.ref (x.x+1111))),(x.x+1111,dg .none (f1+1109) (rawInt (Int.ofNat (f1+1109))) x.xx)])
  (fun x=>x.j+1109) (fun x=>x.tk) (fun _=>True) (fun x=>by rw [<- hl];rfl) (by
   intro ps h g p n tk Q eZ hg ho hr k
   obtain ⟨j,rfl⟩:=bY (i:=0) hr rfl
   exact rc eZ z (hl▸Nat.le_refl _) hz hx (.cs (s1:=#[])) hg ho hr fun j' a8 x o1 ito fT xx h' g' bn bF=>k ⟨j',a8,x,o1,ito,fT,xx⟩ trivial h' g' bn bF)
noncomputable def HC (f1 l ph ch cd sm sd it a da ep i k0 k1 e0 e3 r rd tc te:Nat) (el:Int) (o fl ok ov:Value) (es Q3:Array DictEntry) (s3:bl) (b0:Args) (c0:Value) (z:Nat) (hz:cM es i z) (hx:es.size<=i+z) (As:List Nat) (K:Nat) (is:List Nat) (nd:is.Nodup) (hl:11=is.length):CH (E2 (W2 w b1 b2)) d os:=
 CH.subO o As K dZ ⟨0,0,0,aA,aA,#[],⟨.none,.none,.none,.none,.none,.none⟩⟩ (bQ (W2 w b1 b2) f1) (jv (W2 w b1 b2) f1 l b0 c0) is
  (jw f1 ph ch cd sm sd it a da l (EY (W2 w b1 b2) ch ph k0 k1 e0) (.ref (r+1109)) (aJ o fl (a+1109) i es.size ep ok ov) es ep Q3 e3 s3++vJ r rd tc te el)
  nd hl (fun x=>.error (.ref (x.x+1109)))
  (fun x=>[(f1+1109,x.o1),(ph+1109,ad #[.ref (ch+1109)] 0),(ch+1109,dC cd .none .none),(cd+1109,aA),(sm+1109,cW sd it),(sd+1109,aA),(it+1109,x.ito),(a+1109,cnt (da+1109) es ep),(l+1109,aj Q3 e3 x.s3)]++vJ r rd tc te el++[(x.x+1109,bu (x.x+1110) (.ref (x.x+1111))),(x.x+1111,dg .none (f1+1109) (rawInt (Int.ofNat (f1+1109))) x.xx)])
  (fun x=>x.j+1109) (fun x=>x.tk) (fun _=>True) (fun x=>by rw [<- hl];rfl) (by
   intro ps h g p n tk Q eZ hg ho hr k
   obtain ⟨j,rfl⟩:=bY (i:=0) hr rfl
   have EZ:ps.length=5:=eZ
   refine bc (E:=E2 (W2 w b1 b2)) hg hr ?_
   revert k
   refine nR (D:=fun ps=>_->Well _ _ _ _ _ _ ⟨⟨_,_,_,_,_⟩,_,_,_,_,_,_⟩) EZ fun p1 p2 p3 p4 p5=>?_
   intro k
   refine zB p (hl▸Nat.le_refl _) fun x1 _ pp h2 g2 ag ac=>?_
   have sV:aD h2 (sU f1 ph ch cd sm sd it a l) o:=(ho.step (K:=11) ac (hl▸Nat.le_refl _) rfl).mono (by intro b hb;exact List.mem_append_left _ hb)
   refine rc (ps:=[p1,p2,p3,p4,p5]) rfl z (Nat.le_refl _) hz hx .cA ag sV (ac.sub [0,1,2,3,4,5,6,7,8] (aE rfl) (by decide)) fun j' a8 x o1 ito fT xx h' g' bn bF=>?_
   exact k ⟨j',a8,x,o1,ito,fT,xx⟩ trivial h' g' bn (ac.join' [0,1,2,3,4,5,6,7,8] (by decide) rfl bF rfl))
end
section
variable {Q3 es:Array DictEntry}{a cd ch da e0 e3 ep f1 i it j k0 l r rd sd sm tc te tk z:Nat}{b1 b2:Bool}{c0 o ok ov:Value}{d:Drawn}{el:Int}{p1 p2 p3 p4:Pos}{w:World}
theorem HD {os:OsState}{fl:Value}{s3:bl}{b0:Args}(hz:cM es i z) (hx:es.size<=i+z):
  Qb b1 b2 d os fun b1 b2=>⟨Ad w b1 b2,8,⟨(fn (dS (W2 w b1 b2) f1)),none,none,[(.builtin "list.extend.loop" b0,p1),(.builtin "type.__call__" ⟨[.type "list",c0],[]⟩,p2),(fn (bK (W2 w b1 b2) l),p3),(CC,p4)],none⟩,d9 (bU (fdOf (W2 w b1 b2) 717)) (Ay (W2 w b1 b2) f1),[(f1+1109,aL [AP w b1 b2 k0 ch] e0),(ch+1109,dC cd .none (Aa sm)),Ab cd,(sm+1109,cW sd it),Ab sd,(it+1109,aJ o fl (a+1109) i es.size ep ok ov),Az a da es ep,(l+1109,aj Q3 e3 s3)],j+1109,tk,.h (JN f1 l j ch cd sm sd it a da ep i k0 tk (e0+1) e3 o fl ok ov es Q3 s3 b0 c0 z hz hx [f1+1109,ch+1109,cd+1109,sm+1109,sd+1109,it+1109,a+1109,l+1109] 8 [0,8,1,2,3,4,5,6,7] (by decide) rfl) fun x1=>.e (.e (.raise (.ref ((x1.x)+1109))) [AF f1 x1.o1,Ar ch cd Data.plain,Ab cd,Aj sm sd Data.plain it,Ab sd,AF it x1.ito,Az a da es ep,(l+1109,aj Q3 e3 ((dZ.s3 x1))),((x1.x)+1109,(bu ((x1.x)+1110) (.ref ((x1.x)+1111)))),((x1.x)+1111,⟨(.type "traceback"),none,.fields #[.none,(Aa f1),.none,(.int (↑(f1+1109)) 0),.none,(V6.a (dZ.xx x1)),(V6.b (dZ.xx x1)),(V6.c (dZ.xx x1)),(V6.d (dZ.xx x1)),(V6.e (dZ.xx x1)),(V6.f (dZ.xx x1))],#[]⟩)] ((x1.j)+1109) ((x1.2)))⟩:=bE 80 [1,1,1,1] [[10,10,11,11]] [9,10] 80 [1,1,1,1] [[10,10,11,11]] [9,10] (by kernel_rfl)
theorem E0 {os:OsState}{fl:Value}{s3:bl}{b0:Args}(hz:cM es i z) (hx:es.size<=i+z):
  Qb b1 b2 d os fun b1 b2=>⟨Ad w b1 b2,10,⟨(fn (dS (W2 w b1 b2) f1)),none,none,[(.builtin "list.extend.loop" b0,p1),(.builtin "type.__call__" ⟨[.type "list",c0],[]⟩,p2),(fn (bK (W2 w b1 b2) l),p3),(CC,p4)],none⟩,d9 (bU (fdOf (W2 w b1 b2) 717)) (Ay (W2 w b1 b2) f1),[(f1+1109,aL [AP w b1 b2 k0 ch] e0),(ch+1109,dC cd (Aa r) (Aa sm)),Ab cd,(sm+1109,cW sd it),Ab sd,(it+1109,aJ o fl (a+1109) i es.size ep ok ov),Az a da es ep,(l+1109,aj Q3 e3 s3),(r+1109,gD rd 0 tc el te),Ab rd],j+1109,tk,.h (HC f1 l j ch cd sm sd it a da ep i k0 tk (e0+1) e3 r rd tc te el o fl ok ov es Q3 s3 b0 c0 z hz hx [f1+1109,ch+1109,cd+1109,sm+1109,sd+1109,it+1109,a+1109,l+1109,r+1109,rd+1109] 10 [0,10,1,2,3,4,5,6,7,8,9] (by decide) rfl) fun x1=>.e (.e (.raise (.ref ((x1.x)+1109))) [AF f1 x1.o1,Ar ch cd Data.plain,Ab cd,Aj sm sd Data.plain it,Ab sd,AF it x1.ito,Az a da es ep,(l+1109,aj Q3 e3 ((dZ.s3 x1))),A8 r rd Data.plain tc el te,Ab rd,((x1.x)+1109,(bu ((x1.x)+1110) (.ref ((x1.x)+1111)))),((x1.x)+1111,⟨(.type "traceback"),none,.fields #[.none,(Aa f1),.none,(.int (↑(f1+1109)) 0),.none,(V6.a (dZ.xx x1)),(V6.b (dZ.xx x1)),(V6.c (dZ.xx x1)),(V6.d (dZ.xx x1)),(V6.e (dZ.xx x1)),(V6.f (dZ.xx x1))],#[]⟩)] ((x1.j)+1109) ((x1.2)))⟩:=bE 80 [1,1,1,1] [[12,12,13,13]] [11,12] 80 [1,1,1,1] [[12,12,13,13]] [11,12] (by kernel_rfl)
end
section
variable {d:Drawn}{os:OsState}{w:World}{b1 b2:Bool}
theorem Db {ps:List Pos}{D:List Pos->Prop}(h:ps.length=4) (k:∀ a b c d,D [a,b,c,d]):D ps:=by
 match ps,h with
 | [a,b,c,d],_=>exact k a b c d
noncomputable abbrev Cm (W:World) (l:Nat) (b0:Args) (c0:Value):List Code:=[.builtin "list.extend.loop" b0,.builtin "type.__call__" ⟨[.type "list",c0],[]⟩,fn (bK W l),CC]
noncomputable def HE (f1 l ch cd sm sd it a da ep i k0 e0 e3:Nat) (o fl ok ov:Value) (es Q3:Array DictEntry) (s3:bl) (b0:Args) (c0:Value) (z:Nat) (hz:cM es i z) (hx:es.size<=i+z) (As:List Nat) (K:Nat) (is:List Nat) (nd:is.Nodup) (hl:8=is.length):CH (E2 (W2 w b1 b2)) d os:=
 CH.subO o As K dZ ⟨0,0,0,aA,aA,#[],⟨.none,.none,.none,.none,.none,.none⟩⟩ (fn (dS (W2 w b1 b2) f1)) (Cm (W2 w b1 b2) l b0 c0) is
  ([(f1+1109,aL [aa (W2 w b1 b2) aY k0 (.ref (ch+1109))] e0),(ch+1109,dC cd .none (.ref (sm+1109))),(cd+1109,aA),(sm+1109,cW sd it),(sd+1109,aA),(it+1109,aJ o fl (a+1109) i es.size ep ok ov),(a+1109,cnt (da+1109) es ep),(l+1109,aj Q3 e3 s3)])
  nd hl (fun x=>.error (.ref (x.x+1109)))
  (fun x=>[(f1+1109,x.o1),(ch+1109,dC cd .none .none),(cd+1109,aA),(sm+1109,cW sd it),(sd+1109,aA),(it+1109,x.ito),(a+1109,cnt (da+1109) es ep),(l+1109,aj Q3 e3 x.s3)]++[(x.x+1109,bu (x.x+1110) (.ref (x.x+1111))),(x.x+1111,dg .none (f1+1109) .none x.xx)])
  (fun x=>x.j+1109) (fun x=>x.tk) (fun _=>True) (fun x=>by rw [<- hl];rfl) (by
   intro ps h g p n tk Q eZ hg ho hr k
   obtain ⟨j,rfl⟩:=bY (i:=0) hr rfl
   revert k
   refine Db (D:=fun ps=>_->wpCode _ ⟨_,_,_,(Cm (W2 w b1 b2) l b0 c0).zip ps,_⟩ _ _ _) eZ fun p1 p2 p3 p4 k=>?_
   refine dY rfl (fc hg hr ?_)
   refine HD hz hx p (hl▸Nat.le_refl _) ⟨⟨hl▸Nat.le_refl _,ho⟩,fun x1 _ pp h2 g2 ag ac=>fun p'=>dG ?_ p'⟩
   refine gC (ie:=8) (iT:=9) (T:=x1.x+1111) (t:=x1.x+1110) (hd:=.none) (y:=x1.xx) ac (cv _ _).2 rfl rfl fun h3 aV p9=>?_
   exact k ⟨x1.j,x1.tk,x1.x,x1.o1,x1.ito,x1.s3,x1.xx⟩ trivial h3 g2 ag aV)
noncomputable def E1 (f1 l ch cd sm sd it a da ep i k0 e0 e3 r rd tc te:Nat) (el:Int) (o fl ok ov:Value) (es Q3:Array DictEntry) (s3:bl) (b0:Args) (c0:Value) (z:Nat) (hz:cM es i z) (hx:es.size<=i+z) (As:List Nat) (K:Nat) (is:List Nat) (nd:is.Nodup) (hl:10=is.length):CH (E2 (W2 w b1 b2)) d os:=
 CH.subO o As K dZ ⟨0,0,0,aA,aA,#[],⟨.none,.none,.none,.none,.none,.none⟩⟩ (fn (dS (W2 w b1 b2) f1)) (Cm (W2 w b1 b2) l b0 c0) is
  ([(f1+1109,aL [aa (W2 w b1 b2) aY k0 (.ref (ch+1109))] e0),(ch+1109,dC cd (.ref (r+1109)) (.ref (sm+1109))),(cd+1109,aA),(sm+1109,cW sd it),(sd+1109,aA),(it+1109,aJ o fl (a+1109) i es.size ep ok ov),(a+1109,cnt (da+1109) es ep),(l+1109,aj Q3 e3 s3)]++vJ r rd tc te el)
  nd hl (fun x=>.error (.ref (x.x+1109)))
  (fun x=>[(f1+1109,x.o1),(ch+1109,dC cd .none .none),(cd+1109,aA),(sm+1109,cW sd it),(sd+1109,aA),(it+1109,x.ito),(a+1109,cnt (da+1109) es ep),(l+1109,aj Q3 e3 x.s3)]++vJ r rd tc te el++[(x.x+1109,bu (x.x+1110) (.ref (x.x+1111))),(x.x+1111,dg .none (f1+1109) .none x.xx)])
  (fun x=>x.j+1109) (fun x=>x.tk) (fun _=>True) (fun x=>by rw [<- hl];rfl) (by
   intro ps h g p n tk Q eZ hg ho hr k
   obtain ⟨j,rfl⟩:=bY (i:=0) hr rfl
   revert k
   refine Db (D:=fun ps=>_->wpCode _ ⟨_,_,_,(Cm (W2 w b1 b2) l b0 c0).zip ps,_⟩ _ _ _) eZ fun p1 p2 p3 p4 k=>?_
   refine dY rfl (fc hg hr ?_)
   refine E0 hz hx p (hl▸Nat.le_refl _) ⟨⟨hl▸Nat.le_refl _,ho⟩,fun x1 _ pp h2 g2 ag ac=>fun p'=>dG ?_ p'⟩
   refine gC (ie:=10) (iT:=11) (T:=x1.x+1111) (t:=x1.x+1110) (hd:=.none) (y:=x1.xx) ac (cv _ _).2 rfl rfl fun h3 aV p9=>?_
   exact k ⟨x1.j,x1.tk,x1.x,x1.o1,x1.ito,x1.s3,x1.xx⟩ trivial h3 g2 ag aV)
end
section
variable {Q3 es:Array DictEntry}{a cd ch da e3 ep i it j l r rd sd sm t1 tc te tk z:Nat}{b1 b2:Bool}{c el kv vv:Int}{c0 o ok ov:Value}{d:Drawn}{p1 p2 p3:Pos}{w:World}
theorem HF {os:OsState}{fl:Value}{s3:bl}{b0:Args}{t2:Nat}(h0:0 < vv) (h9:vv<=999999) (hz:cM es i z) (hx:es[i+z]?=some ⟨hashInt kv,.int kv t1,.int vv t2⟩):
  Qb b1 b2 d os fun b1 b2=>⟨Ad w b1 b2,7,⟨(.builtin "list.extend.loop" b0),none,none,[(.builtin "type.__call__" ⟨[.type "list",c0],[]⟩,p1),(fn (bK (W2 w b1 b2) l),p2),(CC,p3)],none⟩,oU (Aa ch),[(ch+1109,dC cd .none (Aa sm)),Ab cd,(sm+1109,cW sd it),Ab sd,(it+1109,aJ o fl (a+1109) i es.size ep ok ov),Az a da es ep,(l+1109,aj Q3 e3 s3)],j+1109,tk,.h (JK j l (j+1) ch cd sm sd it a da ep i tk (tk+1) 2 e3 o fl ok ov es Q3 s3 b0 c0 kv vv t1 t2 z h0 h9 hz hx [ch+1109,cd+1109,sm+1109,sd+1109,it+1109,a+1109,l+1109] 7 [7,8,0,1,2,3,4,5,6] (by decide) rfl) fun x1=>.e (.e (.done (.ret (.int kv t1))) [(ch+1109,⟨(.ref 721),(some (cd+1109)),(Data.plain),#[(some (.ref ((x1.r)+1109))),(some (Aa sm))]⟩),Ab cd,Aj sm sd Data.plain it,Ab sd,(it+1109,⟨(.type "dict_itemiterator"),none,.fields #[(iZ.o x1),(iZ.f x1),(Aa a),(.int (↑(i+z+1)) 0),(.int (↑es.size) 0),(.int (↑ep) 0),(iZ.ok x1),(iZ.ov x1)],#[]⟩),Az a da es ep,(l+1109,aj Q3 e3 ((iZ.s3 x1))),((x1.T)+1109,(bb (iZ.u x1) (iZ.v x1))),((x1.rd)+1109,(aA)),((x1.r)+1109,(gD (x1.rd) (vv - 1) (x1.tc) kv t1))] ((x1.j)+1109) ((x1.2)))⟩:=bE 94 (Hx 0x11888008800000001) [[]] [9,10,11] 94 (Hx 0x11888008800000001) [[]] [9,10,11] (by kernel_rfl)
theorem E3 {os:OsState}{fl:Value}{s3:bl}{b0:Args}{t2:Nat}(h0:0 < vv) (h9:vv<=999999) (hz:cM es i z) (hx:es[i+z]?=some ⟨hashInt kv,.int kv t1,.int vv t2⟩):
  Qb b1 b2 d os fun b1 b2=>⟨Ad w b1 b2,9,⟨(.builtin "list.extend.loop" b0),none,none,[(.builtin "type.__call__" ⟨[.type "list",c0],[]⟩,p1),(fn (bK (W2 w b1 b2) l),p2),(CC,p3)],none⟩,oU (Aa ch),[(ch+1109,dC cd (Aa r) (Aa sm)),Ab cd,(sm+1109,cW sd it),Ab sd,(it+1109,aJ o fl (a+1109) i es.size ep ok ov),Az a da es ep,(l+1109,aj Q3 e3 s3),(r+1109,gD rd 0 tc el te),Ab rd],j+1109,tk,.h (HB j l (j+1) ch cd sm sd it a da ep i tk (tk+1) 2 e3 r rd tc te el o fl ok ov es Q3 s3 b0 c0 kv vv t1 t2 z h0 h9 hz hx [ch+1109,cd+1109,sm+1109,sd+1109,it+1109,a+1109,l+1109,r+1109,rd+1109] 9 [9,10,0,1,2,3,4,5,6,7,8] (by decide) rfl) fun x1=>.e (.e (.done (.ret (.int kv t1))) [(ch+1109,⟨(.ref 721),(some (cd+1109)),(Data.plain),#[(some (.ref ((x1.r)+1109))),(some (Aa sm))]⟩),Ab cd,Aj sm sd Data.plain it,Ab sd,(it+1109,⟨(.type "dict_itemiterator"),none,.fields #[(iZ.o x1),(iZ.f x1),(Aa a),(.int (↑(i+z+1)) 0),(.int (↑es.size) 0),(.int (↑ep) 0),(iZ.ok x1),(iZ.ov x1)],#[]⟩),Az a da es ep,(l+1109,aj Q3 e3 ((iZ.s3 x1))),A8 r rd Data.plain tc el te,Ab rd,((x1.T)+1109,(bb (iZ.u x1) (iZ.v x1))),((x1.rd)+1109,(aA)),((x1.r)+1109,(gD (x1.rd) (vv - 1) (x1.tc) kv t1))] ((x1.j)+1109) ((x1.2)))⟩:=bE 94 (Hx 0x11aaa00aa00000001) [[]] [11,12,13] 94 (Hx 0x11aaa00aa00000001) [[]] [11,12,13] (by kernel_rfl)
theorem HG {os:OsState}{fl:Value}{s3:bl}{b0:Args}(hz:cM es i z) (hx:es.size<=i+z):
  Qb b1 b2 d os fun b1 b2=>⟨Ad w b1 b2,7,⟨(.builtin "list.extend.loop" b0),none,none,[(.builtin "type.__call__" ⟨[.type "list",c0],[]⟩,p1),(fn (bK (W2 w b1 b2) l),p2),(CC,p3)],none⟩,oU (Aa ch),[(ch+1109,dC cd .none (Aa sm)),Ab cd,(sm+1109,cW sd it),Ab sd,(it+1109,aJ o fl (a+1109) i es.size ep ok ov),Az a da es ep,(l+1109,aj Q3 e3 s3)],j+1109,tk,.h (HE j l ch cd sm sd it a da ep i tk 1 e3 o fl ok ov es Q3 s3 b0 c0 z hz hx [ch+1109,cd+1109,sm+1109,sd+1109,it+1109,a+1109,l+1109] 7 [7,0,1,2,3,4,5,6] (by decide) rfl) fun x1=>.e (.e (.done .next) [Ar ch cd Data.plain,Ab cd,Aj sm sd Data.plain it,Ab sd,AF it x1.ito,Az a da es ep,(l+1109,aj Q3 e3 ((dZ.s3 x1)))] ((x1.j)+1109) ((x1.2)))⟩:=bE 79 (Hx 0x1108800000001) [[9]] [] 79 (Hx 0x1108800000001) [[9]] [] (by kernel_rfl)
theorem E4 {os:OsState}{fl:Value}{s3:bl}{b0:Args}(hz:cM es i z) (hx:es.size<=i+z):
  Qb b1 b2 d os fun b1 b2=>⟨Ad w b1 b2,9,⟨(.builtin "list.extend.loop" b0),none,none,[(.builtin "type.__call__" ⟨[.type "list",c0],[]⟩,p1),(fn (bK (W2 w b1 b2) l),p2),(CC,p3)],none⟩,oU (Aa ch),[(ch+1109,dC cd (Aa r) (Aa sm)),Ab cd,(sm+1109,cW sd it),Ab sd,(it+1109,aJ o fl (a+1109) i es.size ep ok ov),Az a da es ep,(l+1109,aj Q3 e3 s3),(r+1109,gD rd 0 tc el te),Ab rd],j+1109,tk,.h (E1 j l ch cd sm sd it a da ep i tk 1 e3 r rd tc te el o fl ok ov es Q3 s3 b0 c0 z hz hx [ch+1109,cd+1109,sm+1109,sd+1109,it+1109,a+1109,l+1109,r+1109,rd+1109] 9 [9,0,1,2,3,4,5,6,7,8] (by decide) rfl) fun x1=>.e (.e (.done .next) [Ar ch cd Data.plain,Ab cd,Aj sm sd Data.plain it,Ab sd,AF it x1.ito,Az a da es ep,(l+1109,aj Q3 e3 ((dZ.s3 x1))),A8 r rd Data.plain tc el te,Ab rd] ((x1.j)+1109) ((x1.2)))⟩:=bE 79 (Hx 0x110aa00000001) [[11]] [] 79 (Hx 0x110aa00000001) [[11]] [] (by kernel_rfl)
theorem HH {os:OsState}{b0:Args}(he:(c==0)=false) (hf:decide (c>0)=true):
  Qw w b1 b2 d os fun W=>⟨E2 W,4,⟨(.builtin "list.extend.loop" b0),none,none,[(.builtin "type.__call__" ⟨[.type "list",c0],[]⟩,p1),(fn (bK W l),p2),(CC,p3)],none⟩,oU (Aa ch),[(ch+1109,dC cd (Aa r) (Aa sm)),Ab cd,(r+1109,gD rd c tc el te),Ab rd],j+1109,tk,.u (i0 "int.__eq__" F.entry_int_eq (fun a b=>a==b) (fun _ _ _ _=>rfl) (c) (0) false he)<| .u (fO c 0 true hf)<| .e (.e (.done (.ret (.int el te))) [(ch+1109,(dC cd (Aa r) (Aa sm))),AA cd,(r+1109,⟨(.ref 773),(some (rd+1109)),(Data.plain),#[(some (.int (c - 1) (tk+17))),(some (.int el te))]⟩),AA rd] (j+1117) (tk+22))⟩:=bE 593 (Hx 0x1103030000003000000000000030000380088000000030003007000077000050000300500551010000001000000000000010000151010000001000000000000010000151010000001000000000000010000155560606660050555005500000001) [(Hx 0x110303000000300000000000003000038),(Hx 0x1555555caa9aa0a0aaa9aa0a0aaa9aa0a0aa090999303000000300000000000003000038303000000300000000003030030000300303000000300000000000003000038)] [] 593 (Hx 0x1103030000003000000000000030000380088000000030003007000077000050000300500551010000001000000000000010000151010000001000000000000010000151010000001000000000000010000155560606660050555005500000001) [(Hx 0x110303000000300000000000003000038),(Hx 0x1555555caa9aa0a0aaa9aa0a0aaa9aa0a0aa090999303000000300000000000003000038303000000300000000003030030000300303000000300000000000003000038)] [] (by kernel_rfl)
end
section
variable {L M Z:KV}{S ch i n tk:Nat}{X:Value->Pos->Shared->Prop}{es:Array DictEntry}{g:Array GenState}{h:Heap}{kv vv:Int}{m:Mm}{p:Pos}{v:Value}{Γ:Ctx}
theorem Cn (v:Value):oU v=pyNext v>>=fun o=>match o with
 | some v=>(.pure (.done (.ret v)):Sem Fin)
 | none=>.pure (.done .next):=by
 unfold oU;rw [<- R.bindR_eq,<- Fast.te9404975358583537561];rfl
section
variable {E:En}{V:Heap}{U:Nat}{d:Drawn}{os:OsState}
noncomputable def HI (Q:Option Value->Pos->Shared->Prop):Result->Shared->Prop
 | .ok (.ret v),s=>∀ p,Q (some v) p s
 | .ok .next,s=>∀ p,Q none p s
 | _,_=>False
theorem E5 {Q:Option Value->Pos->Shared->Prop}(hg:E.G g) (hr:Rep E V U m n h)
  (w:Well E V U (HI Q) d os ⟨Γ,p,[],oU v,m,n,tk⟩):wp (Mo E) Γ (pyNext v) Q X p ⟨h,g,d,tk,os⟩:=by
 have z:=w h g hg hr
 rw [cO] at z
 rw [Cn,Sem.wp_bind'] at z
 refine Sem.wp_mono _ _ _ (fun o p' s' h=>?_) (fun e p' s' h=>h.elim) _ _ z
 cases o with
 | none=>exact h p'
 | some v=>exact h p'
noncomputable abbrev nU (S ch:Nat):Code:=.builtin "list.extend.loop" ⟨[.ref (S+1109),.ref (ch+1109),.none],[]⟩
theorem jR {R:Result->Shared->Prop}(aF:Γ.code=nU S ch) (hg:E.G g) (hr:Rep E V U m n h)
  (w:Well E V U (HI fun o _ s=>match o with
   | none=>R (.ok (.ret .none)) s
   | some x=>∃ acc c,s.heap.get? (S+1109)=some (ad acc c)/\acc.size+1<=1000/\∀ p',wpCode (Mo E) (Γ.goto (nU S ch)) R p' {s with heap:=s.heap.update (S+1109) (Obj.mapSeq (·.push x))}) d os ⟨Γ,p,[],oU (.ref (ch+1109)),m,n,tk⟩):wpCode (Mo E) Γ R p ⟨h,g,d,tk,os⟩:=by
 refine am aF PySem.F.entry_extend_loop ?_
 show wp _ _ (pyNext (.ref (ch+1109))>>=fun o=>_) _ _ _ _
 rw [Sem.wp_bind']
 refine Sem.wp_mono _ _ _ (fun o p' s' h=>?_) (fun e p' s' h=>h.elim) _ _ (E5 (X:=fun _ _ _=>False) hg hr w)
 cases o with
 | none=>exact h
 | some x=>
  obtain ⟨acc,c,hS,hz,h⟩:=h
  show wp _ _ (updateSeq (S+1109) (·.push x)>>=fun _=>(again (nU S ch):Sem PySem.Fin)) _ _ _ _
  refine Sem.wp_mono _ _ _ (fun f p2 s2 h2=>?_) (fun e p2 s2 h2=>h2.elim) _ _ (aR (Q:=fun (f:PySem.Fin) s2=>f=.again (nU S ch)/\s2={s' with heap:=s'.heap.update (S+1109) (Obj.mapSeq (·.push x))}) (E:=fun (_:Value) (_:Shared)=>False)
   (wpAny_bind (wpAny_updateSeq (s:=s') hS rfl (wpAny_pure ⟨rfl,rfl⟩) (by rw [sizeLine_eq];lia) (by show (acc.push x).size<=sizeLine+1;rw [Array.size_push,sizeLine_eq];lia))) p')
  obtain ⟨rfl,rfl⟩:=h2
  exact ⟨plainId_quiet PySem.F.plain_extend_loop _,h _⟩
end
noncomputable def ai (L:KV):List Int:=L.flatMap fun p=>List.replicate p.2.toNat p.1
theorem lG:∀ (M:KV),(∀ p∈M,0<=p.2)->(∀ p∈M,p.2=0)∨∃ Z kv vv M',M=Z++(kv,vv)::M'/\(∀ p∈Z,p.2=0)/\0 < vv
 | [],_=>.inl fun _ h=>nomatch h
 | (k,v)::M,h=>by
  by_cases hv:v=0
  ·rcases lG M (fun p hp=>h p (List.mem_cons_of_mem _ hp)) with h1 | ⟨Z,kv,vv,M',e,h1,h2⟩
   ·refine .inl fun p hp=>?_
    rcases List.mem_cons.mp hp with rfl | hp
    ·exact hv
    ·exact h1 p hp
   ·refine .inr ⟨(k,v)::Z,kv,vv,M',by rw [e];rfl,fun p hp=>?_,h2⟩
    rcases List.mem_cons.mp hp with rfl | hp
    ·exact hv
    ·exact h1 p hp
  ·have:=h (k,v) (List.mem_cons_self ..)
   exact .inr ⟨[],k,v,M,rfl,fun _ h=>(nomatch h),by dsimp only at this;lia⟩
theorem d6:∀ {Z:KV},(∀ p∈Z,p.2=0)->∀ M,ai (Z++M)=ai M
 | [],_,_=>rfl
 | x::Z,h,M=>by
  show List.replicate x.2.toNat x.1++ai (Z++M)=_
  rw [h x (List.mem_cons_self ..),d6 fun p hp=>h p (List.mem_cons_of_mem _ hp)]
  rfl
theorem iD (h:0 < vv):ai ((kv,vv)::M)=kv::(List.replicate (vv - 1).toNat kv++ai M):=by
 show List.replicate vv.toNat kv++ai M=_
 rw [show vv.toNat=(vv - 1).toNat+1 from by lia,List.replicate_succ]
 rfl
theorem iP (hT:Tells es L) (e:L.drop i=Z++M) (hz:∀ p∈Z,p.2=0):cM es i Z.length:=fun u hu=>by
 have h1:L[i+u]?=some Z[u]:=by
  have:=congrArg (fun l=>l[u]?) e
  simp only [List.getElem?_drop] at this
  rw [this,List.getElem?_append_left hu,List.getElem?_eq_getElem hu]
 have h2:=hz Z[u] (List.getElem_mem hu)
 generalize Z[u]=x at h1 h2
 obtain ⟨k,v⟩:=x
 dsimp only at h2
 subst h2
 obtain ⟨t,t',h⟩:=hT.at h1
 exact ⟨k,t,t',h⟩
theorem ug (hT:Tells es L) (e:L.drop i=Z++(kv,vv)::M):(∃ t1 t2,es[i+Z.length]?=some ⟨hashInt kv,.int kv t1,.int vv t2⟩)/\L.drop (i+Z.length+1)=M:=by
 have h1:L[i+Z.length]?=some (kv,vv):=by
  have:=congrArg (fun l=>l[Z.length]?) e
  simp only [List.getElem?_drop] at this
  rw [this,List.getElem?_append_right (Nat.le_refl _),Nat.sub_self]
  rfl
 refine ⟨hT.at h1,?_⟩
 have:=congrArg (fun l=>l.drop (Z.length+1)) e
 simp only [List.drop_drop] at this
 rw [show i+Z.length+1=i+(Z.length+1) from by lia,this,show Z++(kv,vv)::M=(Z++[(kv,vv)])++M from by simp]
 exact List.drop_left' (by simp)
end
theorem zD {ps:List Pos}(h:ps.length=3):∃ a b c,ps=[a,b,c]:=by
 match ps,h with
 | [a,b,c],_=>exact ⟨a,b,c,rfl⟩
theorem aD.join {h h':Heap}{As Bs:List Nat}{o:Value}(ho:aD h As o) (oj:aD h' Bs o):aD h' (As++Bs) o:=by
 rcases ho with rfl | ⟨a,oa,rfl,ha,hn⟩
 ·exact .inl rfl
 ·rcases oj with e | ⟨a',oa',e,ha',hn'⟩
  ·exact absurd e (fun z=>nomatch z)
  ·have e2:a=a':=by
    have:(Int.ofNat a)=Int.ofNat a':=by injection e
    exact Int.ofNat.inj this
   subst e2
   exact .inr ⟨a,oa',rfl,ha',fun hm=>(List.mem_append.mp hm).elim hn hn'⟩
theorem aD.upd {h:Heap}{As:List Nat}{o:Value}{S:Nat}{f:Obj->Obj}(ho:aD h As o) (hS:S∈As):aD (h.update S f) As o:=by
 rcases ho with rfl | ⟨a,oa,rfl,ha,hn⟩
 ·exact .inl rfl
 ·have bx:S≠a:=fun e=>hn (e▸hS)
  exact .inr ⟨a,oa,rfl,(Heap.get?_update_other _ _ bx).trans ha,hn⟩
section
variable {d:Drawn}{os:OsState}{w:World}{b1 b2:Bool}{V:Heap}{U:Nat}{R:Result->Shared->Prop}{S l ch cd sm sd it a da ep e3:Nat}{c0:Value}{es Q3:Array DictEntry}{L:KV}
noncomputable abbrev Co (W:World) (l:Nat) (c0:Value):List Code:=[.builtin "type.__call__" ⟨[.type "list",c0],[]⟩,fn (bK W l),CC]
noncomputable abbrev sW (S ch cd sm sd it a da l:Nat) (so:Obj) (zx EE:Value) (ito:Obj) (es:Array DictEntry) (ep:Nat) (Q3:Array DictEntry) (e3:Nat) (s3:bl):Mm:=[(S+1109,so),(ch+1109,dC cd zx EE),(cd+1109,aA),(sm+1109,cW sd it),(sd+1109,aA),(it+1109,ito),(a+1109,cnt (da+1109) es ep),(l+1109,aj Q3 e3 s3)]
noncomputable abbrev Cp (S ch cd sm sd it a l:Nat):List Nat:=[S+1109,ch+1109,cd+1109,sm+1109,sd+1109,it+1109,a+1109,l+1109]
theorem kC {acc:Array Value}{js:List Int}(h:ae acc js) (x:Int) (t:Tok):ae (acc.push (.int x t)) (js++[x]):=by
 have z:=h.app (show ae #[.int x t] [x] from rfl)
 rwa [show acc++#[Value.int x t]=acc.push (.int x t) from rfl] at z
theorem Rep.pushed {E:En}{m:Mm}{n:Nat}{h:Heap}{S c:Nat}{acc:Array Value}{x:Value}(r:Rep E V U ((S+1109,ad acc c)::m) n h):∃ c',Rep E V U ((S+1109,ad (acc.push x) c')::m) n (h.update (S+1109) (Obj.mapSeq (·.push x))):=
 ⟨_,(r.update (i:=0) (f:=Obj.mapSeq (·.push x)) rfl rfl).2⟩
noncomputable def E6 (E:En) (V:Heap) (U:Nat) (R:Result->Shared->Prop) (d:Drawn) (os:OsState) (S ch cd sm sd it a da l:Nat) (es:Array DictEntry) (ep:Nat) (Q3:Array DictEntry) (e3:Nat) (js:List Int):Prop:=
 ∀ (acc:Array Value) (c j tk:Nat) (ito:Obj) (s3:bl) (h:Heap) (g:Array GenState),ae acc js->AllBare g->Rep E V U (sW S ch cd sm sd it a da l (ad acc c) .none .none ito es ep Q3 e3 s3) (j+1109) h->R (.ok (.ret .none)) ⟨h,g,d,tk,os⟩
theorem HJ (hT:Tells es L) (hL:∀ p∈L,0<=p.2/\p.2<=999999) (hk:U<=8) {ps:List Pos}(hp:ps.length=3):∀ (n:Nat) {i j tk r rd tc te cS:Nat}{c el:Int}{o fl ok ov:Value}{acc:Array Value}{js:List Int}{s3:bl}{h:Heap}{g:Array GenState}{p:Pos},
  (List.replicate c.toNat el++ai (L.drop i)).length=n->0<=c->js.length+n<=1000->ae acc js->AllBare g->aD h (Cp S ch cd sm sd it a l++[r+1109,rd+1109]) o->
  Rep (Ad w b1 b2) V U (sW S ch cd sm sd it a da l (ad acc cS) (Aa r) (Aa sm) (aJ o fl (a+1109) i es.size ep ok ov) es ep Q3 e3 s3++[(r+1109,gD rd c tc el te),Ab rd]) (j+1109) h->
  E6 (Ad w b1 b2) V U R d os S ch cd sm sd it a da l es ep Q3 e3 (js++(List.replicate c.toNat el++ai (L.drop i)))->
  wpCode (AK w b1 b2) ⟨nU S ch,none,none,(Co (W2 w b1 b2) l c0).zip ps,none⟩ R p ⟨h,g,d,tk,os⟩:=by
 obtain ⟨p1,p2,p3,rfl⟩:=zD hp
 intro n
 induction n with
 | zero=>
  intro i j tk r rd tc te cS c el o fl ok ov acc js s3 h g p hn hc hb hI hg ho rep fin
  have Dc:=List.length_eq_zero_iff.mp hn
  rw [Dc,List.append_nil] at fin
  obtain ⟨h1,h2⟩:=List.append_eq_nil_iff.mp Dc
  have h0:c=0:=by have:=congrArg List.length h1;rw [List.length_replicate] at this;simp at this;lia
  subst h0
  rcases lG (L.drop i) (fun p hp=>(hL p (List.mem_of_mem_drop hp)).1) with hZ | ⟨Z,kv,vv,M',e,hZ,hv⟩
  ·have hz:cM es i (L.drop i).length:=iP (M:=[]) hT (by rw [List.append_nil]) hZ
   refine jR (V:=h) (U:=9) rfl hg (rep.sub [1,2,3,4,5,6,7,8,9] (aE rfl) (by decide)) ?_
   refine E4 hz (by rw [hT.size,List.length_drop];lia) p (Nat.le_refl _) ⟨⟨Nat.le_refl _,ho.mono (by simp)⟩,fun x1 _ pp h2 g2 ag ac p'=>?_⟩
   have aV:=rep.join' [1,2,3,4,5,6,7,8,9] (by decide) rfl ac rfl
   exact fin acc cS _ _ _ _ h2 g2 hI ag (aV.pick [0,1,2,3,4,5,6,7] 8 (by decide) (by decide) hk rfl)
  ·rw [e,d6 hZ,iD hv] at h2
   cases h2
 | succ n ih=>
  intro i j tk r rd tc te cS c el o fl ok ov acc js s3 h g p hn hc hb hI hg ho rep fin
  by_cases h0:c=0
  ·subst h0
   rw [show List.replicate (0:Int).toNat el=[] from rfl,List.nil_append] at hn fin
   rcases lG (L.drop i) (fun p hp=>(hL p (List.mem_of_mem_drop hp)).1) with hZ | ⟨Z,kv,vv,M',e,hZ,hv⟩
   ·have:=d6 hZ []
    rw [List.append_nil] at this
    rw [this] at hn
    cases hn
   ·obtain ⟨⟨t1,t2,hx⟩,hd⟩:=ug hT e
    have h9:vv<=999999:=(hL (kv,vv) (List.mem_of_mem_drop (i:=i) (by rw [e];simp))).2
    have e1:ai (L.drop i)=kv::(List.replicate (vv - 1).toNat kv++ai (L.drop (i+Z.length+1))):=by rw [e,d6 hZ,iD hv,hd]
    refine jR (V:=h) (U:=9) rfl hg (rep.sub [1,2,3,4,5,6,7,8,9] (aE rfl) (by decide)) ?_
    refine E3 hv h9 (iP hT e hZ) hx p (Nat.le_refl _) ⟨⟨Nat.le_refl _,ho.mono (by simp)⟩,fun x1 sx pp h2 g2 ag ac p'=>?_⟩
    have aV:=rep.join' [1,2,3,4,5,6,7,8,9] (by decide) rfl ac rfl
    have cx:=aV.pick [0,1,2,3,4,5,6,7,12,11,10] 8 (by decide) (by decide) hk rfl
    have E7:aD h2 (Cp S ch cd sm sd it a l++[x1.r+1109,x1.rd+1109]) x1.o:=by
     rcases sx with q | ⟨q,_⟩
     ·rw [q];exact aD.new (K:=10) cx rfl rfl
     ·rw [q]
      have:=ho.join (aD.all (K:=9) (is:=[11,10]) (As:=[ch+1109,cd+1109,sm+1109,sd+1109,it+1109,a+1109,l+1109,r+1109,rd+1109]) (ho.mono (by simp)) ac (Nat.le_refl _) rfl rfl)
      refine this.mono fun b hb=>?_
      rcases List.mem_append.mp hb with hb | hb
      ·exact List.mem_append_left _ (List.mem_append_left _ hb)
      ·exact List.mem_append_right _ hb
    refine ⟨acc,cS,aV.own 0 _ _ rfl,by rw [hI.size];lia,fun p'=>?_⟩
    obtain ⟨HK,bC⟩:=(cx.pick [0,1,2,3,4,5,6,7,8,9] 8 (by decide) (by decide) hk rfl).pushed (x:=.int kv t1)
    rw [e1] at hn fin
    refine ih (j:=x1.j) (r:=x1.r) (rd:=x1.rd) (c:=vv - 1) (el:=kv) (i:=i+Z.length+1) (by simpa using hn) (by lia) (by rw [List.length_append];simp;lia) (kC hI kv t1) ag (E7.upd (by simp)) bC ?_
    rw [List.append_assoc];exact fin
  ·have he:(c==0)=false:=beq_eq_false_iff_ne.mpr h0
   have hf:decide (c>0)=true:=decide_eq_true (by lia)
   refine jR (V:=h) (U:=4) rfl hg (rep.sub [1,2,8,9] (aE rfl) (by decide)) ?_
   refine HH he hf p (Nat.le_refl _) fun pp h2 g2 ag ac p'=>?_
   have aV:=rep.join' [1,2,8,9] (by decide) rfl ac rfl
   refine ⟨acc,cS,aV.own 0 _ _ rfl,by rw [hI.size];lia,fun p'=>?_⟩
   obtain ⟨HK,bC⟩:=aV.pushed (x:=.int el te)
   have e1:List.replicate c.toNat el++ai (L.drop i)=el::(List.replicate (c - 1).toNat el++ai (L.drop i)):=by
    rw [show c.toNat=(c - 1).toNat+1 from by lia,List.replicate_succ];rfl
   rw [e1] at hn fin
   refine ih (j:=j+8) (r:=r) (rd:=rd) (c:=c - 1) (el:=el) (by simpa using hn) (by lia) (by rw [List.length_append];simp;lia) (kC hI el te) ag ?_ bC ?_
   ·refine aD.upd ((ho.join (Bs:=[ch+1109,cd+1109,r+1109,rd+1109]) ((ho.mono (by simp)).step (K:=4) ac (Nat.le_refl _) rfl)).mono fun b hb=>List.mem_append_left _ hb) (by simp)
   ·rw [List.append_assoc];exact fin
end
section
variable {d:Drawn}{os:OsState}{w:World}{b1 b2:Bool}{V:Heap}{U:Nat}{R:Result->Shared->Prop}{S l ch cd sm sd it a da ep e3:Nat}{c0:Value}{es Q3:Array DictEntry}{L:KV}
theorem HL (hT:Tells es L) (hL:∀ p∈L,0<=p.2/\p.2<=999999) (hk:U<=8) {ps:List Pos}(hp:ps.length=3) {i j tk cS:Nat}{o fl ok ov:Value}{acc:Array Value}{js:List Int}{s3:bl}{h:Heap}{g:Array GenState}{p:Pos}
  (hb:js.length+(ai (L.drop i)).length<=1000) (hI:ae acc js) (hg:AllBare g) (ho:aD h (Cp S ch cd sm sd it a l) o)
  (rep:Rep (Ad w b1 b2) V U (sW S ch cd sm sd it a da l (ad acc cS) .none (Aa sm) (aJ o fl (a+1109) i es.size ep ok ov) es ep Q3 e3 s3) (j+1109) h)
  (fin:E6 (Ad w b1 b2) V U R d os S ch cd sm sd it a da l es ep Q3 e3 (js++ai (L.drop i))):
  wpCode (AK w b1 b2) ⟨nU S ch,none,none,(Co (W2 w b1 b2) l c0).zip ps,none⟩ R p ⟨h,g,d,tk,os⟩:=by
 have JO:=hp
 obtain ⟨p1,p2,p3,rfl⟩:=zD hp
 rcases lG (L.drop i) (fun p hp=>(hL p (List.mem_of_mem_drop hp)).1) with hZ | ⟨Z,kv,vv,M',e,hZ,hv⟩
 ·have h1:=d6 hZ []
  rw [List.append_nil] at h1
  rw [h1,show ai []=[] from rfl,List.append_nil] at fin
  have hz:cM es i (L.drop i).length:=iP (M:=[]) hT (by rw [List.append_nil]) hZ
  refine jR (V:=h) (U:=7) rfl hg (rep.sub [1,2,3,4,5,6,7] (aE rfl) (by decide)) ?_
  refine HG hz (by rw [hT.size,List.length_drop];lia) p (Nat.le_refl _) ⟨⟨Nat.le_refl _,ho.mono (by simp)⟩,fun x1 _ pp h2 g2 ag ac p'=>?_⟩
  have aV:=rep.join' [1,2,3,4,5,6,7] (by decide) rfl ac rfl
  exact fin acc cS _ _ _ _ h2 g2 hI ag aV
 ·obtain ⟨⟨t1,t2,hx⟩,hd⟩:=ug hT e
  have h9:vv<=999999:=(hL (kv,vv) (List.mem_of_mem_drop (i:=i) (by rw [e];simp))).2
  have e1:ai (L.drop i)=kv::(List.replicate (vv - 1).toNat kv++ai (L.drop (i+Z.length+1))):=by rw [e,d6 hZ,iD hv,hd]
  refine jR (V:=h) (U:=7) rfl hg (rep.sub [1,2,3,4,5,6,7] (aE rfl) (by decide)) ?_
  refine HF hv h9 (iP hT e hZ) hx p (Nat.le_refl _) ⟨⟨Nat.le_refl _,ho.mono (by simp)⟩,fun x1 sx pp h2 g2 ag ac p'=>?_⟩
  have aV:=rep.join' [1,2,3,4,5,6,7] (by decide) rfl ac rfl
  have cx:=aV.pick [0,1,2,3,4,5,6,7,10,9,8] 8 (by decide) (by decide) hk rfl
  have E7:aD h2 (Cp S ch cd sm sd it a l++[x1.r+1109,x1.rd+1109]) x1.o:=by
   rcases sx with q | ⟨q,_⟩
   ·rw [q];exact aD.new (K:=10) cx rfl rfl
   ·rw [q]
    exact ho.join (aD.all (K:=7) (is:=[9,8]) (As:=[ch+1109,cd+1109,sm+1109,sd+1109,it+1109,a+1109,l+1109]) (ho.mono (by simp)) ac (Nat.le_refl _) rfl rfl)
  rw [e1] at hb fin
  refine ⟨acc,cS,aV.own 0 _ _ rfl,by rw [hI.size];simp at hb;lia,fun p'=>?_⟩
  obtain ⟨HK,bC⟩:=(cx.pick [0,1,2,3,4,5,6,7,8,9] 8 (by decide) (by decide) hk rfl).pushed (x:=.int kv t1)
  refine HJ hT hL hk (ps:=[p1,p2,p3]) rfl _ (j:=x1.j) (r:=x1.r) (rd:=x1.rd) (c:=vv - 1) (el:=kv) (i:=i+Z.length+1) rfl (by lia) (by rw [List.length_append];simp at hb ⊢;lia) (kC hI kv t1) ag (E7.upd (by simp)) bC ?_
  rw [List.append_assoc];exact fin
end
section
variable {S cd ch j l sm tk:Nat}{b1 b2:Bool}{c0:Value}{d:Drawn}{p1 p2 p3:Pos}{w:World}
theorem HM {os:OsState}:
  Qw w b1 b2 d os fun W=>⟨E2 W,2,⟨(.builtin "list.__init__" ⟨[.ref (S+1109),.ref (ch+1109)],[]⟩),none,none,[(.builtin "type.__call__" ⟨[.type "list",c0],[]⟩,p1),(fn (bK W l),p2),(CC,p3)],none⟩,ub (.ref (ch+1109)),[(ch+1109,dC cd .none (.ref (sm+1109))),(cd+1109,aA)],j+1109,tk,.e (.e (.done (.ret (.ref (ch+1109)))) [(ch+1109,(dC cd .none (.ref (sm+1109)))),(cd+1109,(aA))] (j+1110) (tk+1))⟩:=bE 91 (Hx 0x1000130033000000010001) [] [] 91 (Hx 0x1000130033000000010001) [] [] (by kernel_rfl)
theorem HN {os:OsState}:
  Qw w b1 b2 d os fun W=>⟨E2 W,2,⟨(.builtin "list.__init__" ⟨[.ref (S+1109),.ref (ch+1109)],[]⟩),none,none,[(.builtin "type.__call__" ⟨[.type "list",c0],[]⟩,p1),(fn (bK W l),p2),(CC,p3)],none⟩,uc (.ref (ch+1109)),[(ch+1109,dC cd .none (.ref (sm+1109))),(cd+1109,aA)],j+1109,tk,.e (.e (.done (.ret (.bool true))) [(ch+1109,(dC cd .none (.ref (sm+1109)))),(cd+1109,(aA))] (j+1109) tk)⟩:=bE 69 [1,0,0,0,1,0,0,0] [] [] 69 [1,0,0,0,1,0,0,0] [] [] (by kernel_rfl)
end
theorem zE (v:Value):ub v=pyIter v>>=fun v=>(.pure (.done (.ret v)):Sem PySem.Fin):=by
 unfold ub;rw [<- R.bindR_eq,<- Fast.te8711993805878244202];rfl
theorem zF (v:Value):uc v=Builtin.List.listLengthHint v>>=fun b=>(.pure (.done (.ret (.bool b))):Sem PySem.Fin):=by
 unfold uc;rw [<- R.bindR_eq,<- Fast.te15112759502256325868];rfl
section
variable {E:En}{V:Heap}{U:Nat}{d:Drawn}{os:OsState}
noncomputable def HO (Q:Value->Pos->Shared->Prop):Result->Shared->Prop
 | .ok (.ret v),s=>∀ p,Q v p s
 | _,_=>False
theorem E8 {Γ:Ctx}{v:Value}{Q:Value->Pos->Shared->Prop}{X:Value->Pos->Shared->Prop}{p:Pos}{m:Mm}{n tk:Nat}{h:Heap}{g:Array GenState}(hg:E.G g) (hr:Rep E V U m n h)
  (w:Well E V U (HO Q) d os ⟨Γ,p,[],ub v,m,n,tk⟩):wp (Mo E) Γ (pyIter v) Q X p ⟨h,g,d,tk,os⟩:=by
 have z:=w h g hg hr
 rw [cO] at z
 rw [zE,Sem.wp_bind'] at z
 exact Sem.wp_mono _ _ _ (fun o p' s' h=>h p') (fun e p' s' h=>h.elim) _ _ z
theorem E9 {Γ:Ctx}{v:Value}{Q:Bool->Pos->Shared->Prop}{X:Value->Pos->Shared->Prop}{p:Pos}{m:Mm}{n tk:Nat}{h:Heap}{g:Array GenState}(hg:E.G g) (hr:Rep E V U m n h)
  (w:Well E V U (HO fun v p s=>∃ b,v=.bool b/\Q b p s) d os ⟨Γ,p,[],uc v,m,n,tk⟩):wp (Mo E) Γ (Builtin.List.listLengthHint v) Q X p ⟨h,g,d,tk,os⟩:=by
 have z:=w h g hg hr
 rw [cO] at z
 rw [zF,Sem.wp_bind'] at z
 refine Sem.wp_mono _ _ _ (fun b p' s' h=>?_) (fun e p' s' h=>h.elim) _ _ z
 obtain ⟨b',e,h⟩:=h p'
 cases e
 exact h
theorem fF {M:Model}{Γ:Ctx}{α β:Type}{t:Sem α}{f:α->Sem β}{P:α->Shared->Prop}{Q:β->Pos->Shared->Prop}{X:Value->Pos->Shared->Prop}{p:Pos}{s:Shared}(h:wpAny M (fb Γ) t P (fun _ _=>False) s) (k:∀ a s' p,P a s'->wp M Γ (f a) Q X p s'):wp M Γ (t>>=f) Q X p s:=by
 rw [Sem.wp_bind']
 exact Sem.wp_mono _ _ _ (fun a p' s' h=>k a s' p' h) (fun e p' s' h=>h.elim) _ _ (aR h p)
end
section
variable {d:Drawn}{os:OsState}{w:World}{b1 b2:Bool}{V:Heap}{U:Nat}{R:Result->Shared->Prop}{S l ch cd sm sd it a da ep e3:Nat}{c0:Value}{es Q3:Array DictEntry}{L:KV}
theorem sX (hT : Tells es L) (hL : ∀ p ∈ L, 0 <= p.2 /\ p.2 <= 999999) (hb : (ai L).length <= 1000) (hk : U <= 8) {ps : List Pos} (hp : ps.length = 3) {j tk cS : Nat} {fl ok ov : Value} {s3 : bl} {h : Heap} {g : Array GenState} {p : Pos}
    (hg : AllBare g) (rep : Rep (Ad w b1 b2) V U (sW S ch cd sm sd it a da l (ad #[] cS) .none (Aa sm) (aJ .none fl (a + 1109) 0 es.size ep ok ov) es ep Q3 e3 s3) (j + 1109) h)
    (fin : E6 (Ad w b1 b2) V U R d os S ch cd sm sd it a da l es ep Q3 e3 (ai L)) :
    wpCode (AK w b1 b2) ⟨.builtin "list.__init__" ⟨[.ref (S + 1109), .ref (ch + 1109)], []⟩, none, none, (Co (W2 w b1 b2) l c0).zip ps, none⟩ R p ⟨h, g, d, tk, os⟩ := by
  have JO := hp
  obtain ⟨p1, p2, p3, rfl⟩ := zD hp
  have bx : S + 1109 ≠ ch + 1109 := fun e => by
    have z := rep.own 1 _ _ rfl
    rw [<- e, rep.own 0 _ _ rfl] at z
    exact nomatch (show Data.seq _ _ = Data.plain from congrArg Obj.data (Option.some.inj z))
  refine am rfl PySem.F.entry_list_init ?_
  show wp _ _ (do let old <- Builtin.List.listItems (.ref (S + 1109)); Builtin.List.listUpdate (.ref (S + 1109)) (fun _ => #[]); letGo old.toList.reverse; Builtin.List.listExtendWith (.ref (S + 1109)) (.ref (ch + 1109)) .none) _ _ _ _
  refine fF (P := fun (old : Array Value) (s' : Shared) => old = #[] /\ s' = ⟨h, g, d, tk, os⟩) (by unfold Builtin.List.listItems; refine wpAny_bind (wpAny_seqItems (rep.own 0 _ _ rfl) rfl (wpAny_pure ?_)); exact ⟨rfl, rfl⟩) fun _ _ pa e => ?_
  obtain ⟨rfl, rfl⟩ := e
  obtain ⟨c1, cm⟩ : ∃ c1, Rep (E2 (W2 w b1 b2)) V U (sW S ch cd sm sd it a da l (ad #[] c1) .none (.ref (sm + 1109)) (aJ .none fl (a + 1109) 0 es.size ep ok ov) es ep Q3 e3 s3) (j + 1109) (h.update (S + 1109) (Obj.mapSeq fun _ => #[])) := ⟨_, (rep.update (i := 0) (f := Obj.mapSeq fun _ => #[]) rfl rfl).2⟩
  refine fF (P := fun (_ : Unit) (s' : Shared) => s' = ⟨h.update (S + 1109) (Obj.mapSeq fun _ => #[]), g, d, tk, os⟩) (by show wpAny _ _ (updateSeq (S + 1109) fun _ => #[]) _ _ _; exact wpAny_updateSeq (s := ⟨h, g, d, tk, os⟩) (rep.own 0 _ _ rfl) rfl rfl) fun _ _ pb e => ?_
  subst e
  refine fF (P := fun (_ : Unit) (s' : Shared) => s' = ⟨h.update (S + 1109) (Obj.mapSeq fun _ => #[]), g, d, tk, os⟩) (wpAny_letGo rfl) fun _ _ pc e => ?_
  subst e
  generalize h.update (S + 1109) (Obj.mapSeq fun _ => #[]) = h1 at cm
  clear rep
  unfold Builtin.List.listExtendWith
  refine fF (P := fun (t : Value) (s' : Shared) => t = .ref 721 /\ s' = ⟨h1, g, d, tk, os⟩) (wpAny_typeOf_ref (cm.own 1 _ _ rfl) ⟨rfl, rfl⟩) fun _ _ pd e => ?_
  obtain ⟨rfl, rfl⟩ := e
  have q1 : Builtin.List.listSameRef (.ref (S + 1109)) (.ref (ch + 1109)) = false := by simp [Builtin.List.listSameRef]; intro e; exact bx (by rw [e])
  have q2 : (Value.ref 721 == Value.type "list") = false := by decide
  have q3 : (Value.ref 721 == Value.type "tuple") = false := by decide
  simp only [q1, q2, q3, Bool.or_false, Bool.false_eq_true, if_false]
  rw [Sem.wp_bind']
  refine E8 hg cm (Well.sub [1, 2] rfl (by decide) rfl fun h2 ac => ?_)
  refine HM pd (Nat.le_refl _) fun pe h3 g3 mF aV pf => ?_
  have bC := ac.join' [1, 2] (by decide) rfl aV rfl
  show wp _ _ (holding [.ref (ch + 1109)] (Builtin.List.listLengthHint (.ref (ch + 1109))) >>= fun Km => _) _ _ _ _
  rw [Sem.wp_bind', Sem.wp_holding]
  refine E9 mF bC (Well.sub [1, 2] rfl (by decide) rfl fun h4 cx => ?_)
  refine HN _ (Nat.le_refl _) fun pg h5 g5 kB dO ph => ⟨true, rfl, ?_⟩
  have gZ := cx.join' [1, 2] (by decide) rfl dO rfl
  simp only [Bool.true_or, if_true]
  refine fF (P := fun (_ : Unit) (s' : Shared) => s' = ⟨h5, g5, d, tk + 1, os⟩) (wpAny_rule rfl) fun _ _ pi e => ?_
  subst e
  obtain ⟨c2, i7⟩ := gZ.pushed (x := .none)
  refine fF (P := fun (_ : Unit) (s' : Shared) => s' = ⟨(h5.update (S + 1109) (Obj.mapSeq (·.push .none))).update (S + 1109) (Obj.mapSeq (·.pop)), g5, d, tk + 1, os⟩) ?_ fun _ _ pj e => ?_
  · show wpAny _ _ (updateSeq (S + 1109) (·.push .none) >>= fun _ => updateSeq (S + 1109) (·.pop)) _ _ _
    refine wpAny_bind (wpAny_updateSeq (gZ.own 0 _ _ rfl) rfl ?_)
    exact wpAny_updateSeq (hz := by seq_fits) (i7.own 0 _ _ rfl) rfl rfl
  subst e
  have jQ := (i7.update (i := 0) (f := Obj.mapSeq (·.pop)) rfl rfl).2
  refine ⟨plainId_quiet PySem.F.plain_extend_loop _, ?_⟩
  exact HL hT hL hk (ps := [p1, p2, p3]) rfl (i := 0) (js := []) (by simpa using hb) ae.nil kB (.inl rfl) jQ fin
end
structure zG (js:List Int) where
 acc:Array Value
 c:Nat
 j:Nat
 tk:Nat
 ito:Obj
 s3:bl
 hI:ae acc js
section
variable {d:Drawn}{os:OsState}{w:World}{b1 b2:Bool}
noncomputable def HP (S l ch cd sm sd it a da ep e3 cS:Nat) (fl ok ov:Value) (es Q3:Array DictEntry) (s3:bl) {L:KV}(hT:Tells es L) (hL:∀ p∈L,0<=p.2/\p.2<=999999) (hb:(ai L).length<=1000) (is:List Nat) (nd:is.Nodup) (hl:8=is.length):ay (E2 (W2 w b1 b2)) d os:=
 ay.subB (zG (ai L)) ⟨_,0,0,0,aA,#[],eX _⟩ (.builtin "list.__init__" ⟨[.ref (S+1109),.ref (ch+1109)],[]⟩) none (Co (W2 w b1 b2) l (.ref (ch+1109))) is
  (sW S ch cd sm sd it a da l (ad #[] cS) .none (.ref (sm+1109)) (aJ .none fl (a+1109) 0 es.size ep ok ov) es ep Q3 e3 s3)
  nd hl (fun _=>.ok (.ret .none)) (fun x=>sW S ch cd sm sd it a da l (ad x.acc x.c) .none .none x.ito es ep Q3 e3 x.s3) (fun x=>x.j+1109) (fun x=>x.tk) (fun _=>True) (fun x=>by rw [<- hl];rfl) (by
   intro ps h g p n tk Q eZ hg hr k
   obtain ⟨j,rfl⟩:=bY (i:=0) hr rfl
   exact sX hT hL hb (hl▸Nat.le_refl _) eZ hg hr fun acc c j' a8 ito fT h' g' hI bn bF=>k ⟨acc,c,j',a8,ito,fT,hI⟩ trivial h' g' bn bF)
end
section
variable {L:KV}{a da e0 ep j k0 k1 k2 k3 k4 k5 k6 l tk:Nat}{b1 b2:Bool}{d:Drawn}{es:Array DictEntry}{p4:Pos}{w:World}
noncomputable abbrev A9:=fun a b c d e=>aa (W2 a b c) dD d e
theorem HQ {os:OsState}{q0 q1 q2 q4:Value}{ss:bl}(hT:Tells es L) (hL:∀ p∈L,0<=p.2/\p.2<=999999) (hb:(ai L).length<=1000):
  Qb b1 b2 d os fun b1 b2=>⟨Ad w b1 b2,3,(dm (W2 w b1 b2) l p4),d9 (aC (W2 w b1 b2) 5 1) (bJ (W2 w b1 b2) l),[(l+1109,aj #[A9 w b1 b2 k0 q0,Ai w b1 b2 aq k1 q1,Ai w b1 b2 bI k2 q2,At w b1 b2 k3 a,Ai w b1 b2 bX k4 q4] e0 ss),Ab da,Az a da es ep],j+1109,tk,.c (HP (j+14) l (j+10) (j+9) (j+4) (j+3) (j+6) a da ep e0 0 (.bool false) .none .none es #[A9 w b1 b2 k0 q0,Ai w b1 b2 aq k1 q1,Ai w b1 b2 bI k2 q2,At w b1 b2 k3 a,Ai w b1 b2 bX k4 q4] ss hT hL hb [17,13,12,7,6,9,2,0] (by decide) rfl) fun x1=>.e (.e (.done .next) [(l+1109,aj #[A9 w b1 b2 k0 q0,Ai w b1 b2 aq k1 q1,Ai w b1 b2 bI k2 q2,At w b1 b2 k3 a,Ai w b1 b2 bX k4 q4,Ai w b1 b2 cP (x1.4) (.ref (j+1123))] (e0+1) ((zG.s3 x1))),Ab da,Az a da es ep,(j+1123,⟨(.type "list"),none,.seq (zG.acc x1) (x1.c),#[]⟩)] ((x1.j)+1109) ((x1.4)+1))⟩:=bE 639 (Hx 0x1112f012f12f0000be0e000000e0000000000e0e00e0000ebbbbe0e000000e0000000000e0e00e0000e10fe0e000000e0000000000e0e00e0000e10f11f00ff00ff0ff0010f000010f10f10f10f0000000e0e0000000000000000000000000000bbb0008c00cc00000008000800b0000bbbb000500580800000080000000000808008000089980800000080000000000808008000089a33606066009000099999900000008080000000000000000000000000000000000330030230003000300034000000000000000000000440000230000300030003100) [[1,1]] [17] 639 (Hx 0x1112f012f12f0000be0e000000e0000000000e0e00e0000ebbbbe0e000000e0000000000e0e00e0000e10fe0e000000e0000000000e0e00e0000e10f11f00ff00ff0ff0010f000010f10f10f10f0000000e0e0000000000000000000000000000bbb0008c00cc00000008000800b0000bbbb000500580800000080000000000808008000089980800000080000000000808008000089a33606066009000099999900000008080000000000000000000000000000000000330030230003000300034000000000000000000000440000230000300030003100) [[1,1]] [17] (by kernel_rfl)
theorem HR {os:OsState}{q0 q1 q2 q4 q5 q6:Value}{ss:bl}(hT:Tells es L) (hL:∀ p∈L,0<=p.2/\p.2<=999999) (hb:(ai L).length<=1000):
  Qb b1 b2 d os fun b1 b2=>⟨Ad w b1 b2,3,(dm (W2 w b1 b2) l p4),d9 (aC (W2 w b1 b2) 9 1) (bJ (W2 w b1 b2) l),[(l+1109,aj #[A9 w b1 b2 k0 q0,Ai w b1 b2 aq k1 q1,Ai w b1 b2 bI k2 q2,At w b1 b2 k3 a,Ai w b1 b2 bX k4 q4,Ai w b1 b2 cP k5 q5,Ai w b1 b2 a7 k6 q6] e0 ss),Ab da,Az a da es ep],j+1109,tk,.c (HP (j+14) l (j+10) (j+9) (j+4) (j+3) (j+6) a da ep e0 0 (.bool false) .none .none es #[A9 w b1 b2 k0 q0,Ai w b1 b2 aq k1 q1,Ai w b1 b2 bI k2 q2,At w b1 b2 k3 a,Ai w b1 b2 bX k4 q4,Ai w b1 b2 cP k5 q5,Ai w b1 b2 a7 k6 q6] ss hT hL hb [17,13,12,7,6,9,2,0] (by decide) rfl) fun x1=>.e (.e (.done .next) [(l+1109,aj #[A9 w b1 b2 k0 q0,Ai w b1 b2 aq k1 q1,Ai w b1 b2 bI k2 q2,At w b1 b2 k3 a,Ai w b1 b2 bX k4 q4,Ai w b1 b2 cP k5 (.ref (j+1123)),Ai w b1 b2 a7 k6 q6] e0 ((zG.s3 x1))),Ab da,Az a da es ep,(j+1123,⟨(.type "list"),none,.seq (zG.acc x1) (x1.c),#[]⟩)] ((x1.j)+1109) ((x1.4)+1))⟩:=bE 639 (Hx 0x1112f012f12f0000be0e000000e0000000000e0e00e0000ebbbbe0e000000e0000000000e0e00e0000e10fe0e000000e0000000000e0e00e0000e10f11f00ff00ff0ff0010f000010f10f10f10f0000000e0e0000000000000000000000000000bbb0008c00cc00000008000800b0000bbbb000500580800000080000000000808008000089980800000080000000000808008000089a33606066009000099999900000008080000000000000000000000000000000000330030230003000300034000000000000000000000440000230000300030003100) [[1,1]] [17] 639 (Hx 0x1112f012f12f0000be0e000000e0000000000e0e00e0000ebbbbe0e000000e0000000000e0e00e0000e10fe0e000000e0000000000e0e00e0000e10f11f00ff00ff0ff0010f000010f10f10f10f0000000e0e0000000000000000000000000000bbb0008c00cc00000008000800b0000bbbb000500580800000080000000000808008000089980800000080000000000808008000089a33606066009000099999900000008080000000000000000000000000000000000330030230003000300034000000000000000000000440000230000300030003100) [[1,1]] [17] (by kernel_rfl)
end
section
variable {acc cl e0 i it j l m0 se t tk xe:Nat}{b1 b2:Bool}{d:Drawn}{f1:FN}{p1 p2:Pos}{ss xs:Array Value}{w:World}{x:Int}
noncomputable def vK:Str:=sZ 0x78
noncomputable def HS:Expr->Expr | .BinOp _ _ r _=>r | _=>default
noncomputable def Dd (w:World):Expr:=HS (aW (au w 1112 0))
noncomputable def i8 (w:World) (l it acc cl:Nat):Code:=dE (Dd w) (it+1109) (acc+1109) (dn (Dd w) (bJ w l) (cl+1109))
noncomputable def uh:Obj:=⟨.type "cell",none,.cell none,#[]⟩
theorem HT {os:OsState}(hx:ss[i]?=some (.int x t)) (hn:xs.size<=1000):
  Qw w b1 b2 d os fun W=>⟨E2 W,4,⟨(i8 W l it acc cl),none,none,[(fn f1,p1),(CC,p2)],none⟩,den (i8 W l it acc cl),[(1113,ad ss se),(it+1109,bP 1113 i),(acc+1109,ad xs xe),(cl+1109,aA)],j+1109,tk,.u (cH 1 0 (it+1109) 1113 i se ss (.int x t) hx)<| .u (nK 2 (acc+1109) xe xs (.int (x.fmod 5) (tk+2)) hn)<| .e (.e (.again (i8 W l it acc cl)) [(1113,(ad ss se)),(it+1109,(bP 1113 (i+1))),(acc+1109,(ad (xs.push (Value.int (x.fmod 5) (tk+2))) (xe+1))),(cl+1109,eM #[aa W vK tk (.int x t)] 1)] (j+1109) (tk+3))⟩:=bE 86 [2,0,2,1] [[4,4,4,0,0,0,3,1],[]] [] 86 [2,0,2,1] [[4,4,4,0,0,0,3,1],[]] [] (by kernel_rfl)
theorem HU {os:OsState}{q0:Value}(hx:ss[i]?=some (.int x t)) (hn:xs.size<=1000):
  Qw w b1 b2 d os fun W=>⟨E2 W,4,⟨(i8 W l it acc cl),none,none,[(fn f1,p1),(CC,p2)],none⟩,den (i8 W l it acc cl),[(1113,ad ss se),(it+1109,bP 1113 i),(acc+1109,ad xs xe),(cl+1109,eM #[aa W vK m0 q0] e0)],j+1109,tk,.u (cH 1 0 (it+1109) 1113 i se ss (.int x t) hx)<| .u (nK 2 (acc+1109) xe xs (.int (x.fmod 5) (tk+2)) hn)<| .e (.e (.again (i8 W l it acc cl)) [(1113,(ad ss se)),(it+1109,(bP 1113 (i+1))),(acc+1109,(ad (xs.push (Value.int (x.fmod 5) (tk+2))) (xe+1))),(cl+1109,eM #[aa W vK m0 (.int x t)] e0)] (j+1109) (tk+3))⟩:=bE 86 [2,0,2,1] [[4,4,4,0,0,0,3,1],[]] [] 86 [2,0,2,1] [[4,4,4,0,0,0,3,1],[]] [] (by kernel_rfl)
theorem HV {os:OsState}(hx:ss.size<=i):
  Qw w b1 b2 d os fun W=>⟨E2 W,2,⟨(i8 W l it acc cl),none,none,[(fn f1,p1),(CC,p2)],none⟩,den (i8 W l it acc cl),[(1113,ad ss se),(it+1109,bP 1113 i)],j+1109,tk,.c (jI 1 0 (it+1109) 1113 i se ss hx) fun x1=>.e (.e (.done .next) [(1113,(ad ss se)),(it+1109,(x1))] (j+1111) tk)⟩:=ee 68 [2,0,2,1] [[4]] [] (by kernel_rfl)
end
noncomputable abbrev vM:=List (Int×Tok)
inductive Fa (W:World):Obj->Prop
 | f:Fa W aA
 | l {m0 t e0:Nat}{x:Int}:Fa W (eM #[aa W vK m0 (.int x t)] e0)
noncomputable def HW (W:World) (b:Bool) (m0 t e0:Nat) (x:Int):Obj:=@Bool.rec (fun _=>Obj) (eM #[aa W vK m0 (.int x t)] e0) aA b
noncomputable def f6 (ls:List (Int×Tok)):List Int:=ls.map fun x=>x.1.fmod 5
noncomputable abbrev Cq (it acc cl se xe:Nat) (ls:List (Int×Tok)) (xs:Array Value) (ns ito:Obj):Mm:=[(1113,ad (ls.map dV).toArray se),(it+1109,ito),(acc+1109,ad xs xe),(cl+1109,ns)]
structure vN (ks:List Int) where
 xs:Array Value
 xe:Nat
 hI:ae xs ks
 m0:Nat
 t:Nat
 e0:Nat
 x:Int
 ito:Obj
 j:Nat
 tk:Nat
theorem ui {W:World}{m0 t e0 i:Nat}{x:Int}(h:eM #[aa W vK m0 (.int x t)] e0=aA):i+1=0:=by
 have:=congrArg (fun o:Obj=>match o.data with | .dict es _=>es.size | _=>0) h
 exact absurd (show (1:Nat)=0 from this) (by decide)
section
variable {d:Drawn}{os:OsState}{w:World}{b1 b2:Bool}{V:Heap}{U:Nat}{R:Result->Shared->Prop}
theorem zH {l it acc cl se:Nat}(ls:List (Int×Tok)) {f1:FN}{p1 p2:Pos}(hk:U<=4) {b:Bool}(hb:ls.isEmpty=b) (hn:ls.length<=63):
  ∀ (cz:List (Int×Tok)) (i:Nat),ls.drop i=cz->∀ (xs:Array Value) (xe:Nat) (ns:Obj) (j tk:Nat) (h:Heap) (g:Array GenState) (p:Pos),ae xs (f6 (ls.take i))->Fa (W2 w b1 b2) ns->(ns=aA↔i=0)->i<=ls.length->AllBare g->
   Rep (Ad w b1 b2) V U (Cq it acc cl se xe ls xs ns (bP 1113 i)) (j+1109) h->
   (∀ (x:vN (f6 ls)) h g,AllBare g->Rep (Ad w b1 b2) V U (Cq it acc cl se x.xe ls x.xs (HW (W2 w b1 b2) b x.m0 x.t x.e0 x.x) x.ito) (x.j+1109) h->R (.ok .next) ⟨h,g,d,x.tk,os⟩)->
   wpCode (AK w b1 b2) ⟨i8 (W2 w b1 b2) l it acc cl,none,none,[(fn f1,p1),(CC,p2)],none⟩ R p ⟨h,g,d,tk,os⟩:=by
 intro cz
 induction cz with
 | nil=>
  intro i eP xs xe ns j tk h g p hI bz hz nM hg rep fin
  have hl:ls.length<=i:=by
   have:=congrArg List.length eP
   simp at this;lia
  refine bc (E:=E2 (W2 w b1 b2)) (V:=h) (U:=2) hg (rep.sub [0,1] (aE rfl) (by decide)) ?_
  refine HV (by simpa using hl) p (Nat.le_refl _) fun x _ p2 h2 g2 ag ac=>?_
  rw [List.take_of_length_le hl] at hI
  have r:=rep.join' [0,1] (by decide) rfl ac rfl
  induction bz with
  | f=>
   obtain rfl:=hz.mp rfl
   have:b=true:=by rw [<- hb,List.isEmpty_iff];exact List.eq_nil_of_length_eq_zero (Nat.le_zero.mp hl)
   subst this
   exact fin ⟨xs,xe,hI,0,0,0,0,x,j+2,tk⟩ h2 g2 ag r
  | @l m0 t e0 x'=>
   have:b=false:=by
    rw [<- hb]
    cases ls with
    | nil=>
     have z:=hz.mpr (Nat.le_zero.mp nM)
     cases z
    | cons _ _=>rfl
   subst this
   exact fin ⟨xs,xe,hI,m0,t,e0,x',x,j+2,tk⟩ h2 g2 ag r
 | cons x cz ih=>
  intro i eP xs xe ns j tk h g p hI bz hz nM hg rep fin
  have hx:ls[i]?=some x:=by
   have:=congrArg (fun l=>l[0]?) eP
   simpa using this
  have BO:ls.drop (i+1)=cz:=by
   have:=congrArg List.tail eP
   simpa using this
  have iR:i < ls.length:=(List.getElem?_eq_some_iff.mp hx).1
  have et:f6 (ls.take (i+1))=f6 (ls.take i)++[x.1.fmod 5]:=by unfold f6;rw [List.take_succ,hx];simp
  have gb:xs.size<=1000:=by rw [hI.size];unfold f6;rw [List.length_map,List.length_take];lia
  have hv:(ls.map dV).toArray[i]?=some (.int x.1 x.2):=by
   rw [List.getElem?_toArray,List.getElem?_map,hx];rfl
  refine bc (E:=E2 (W2 w b1 b2)) (V:=V) (U:=U) hg rep ?_
  induction bz with
  | f=>exact HT hv gb p hk fun p2 h2 g2 ag ac=>ih (i+1) BO _ _ _ j _ h2 g2 p2 (et▸hI.push _ _) .l ⟨fun z=>ui z,fun z=>nomatch z⟩ iR ag ac fin
  | l=>exact HU hv gb p hk fun p2 h2 g2 ag ac=>ih (i+1) BO _ _ _ j _ h2 g2 p2 (et▸hI.push _ _) .l ⟨fun z=>ui z,fun z=>nomatch z⟩ iR ag ac fin
noncomputable def Df (b:Bool) (l it acc cl se:Nat) (ls:List (Int×Tok)) (hb:ls.isEmpty=b) (hn:ls.length<=63) (is:List Nat) (nd:is.Nodup) (hl:4=is.length):ay (E2 (W2 w b1 b2)) d os:=
 ay.sub (vN (f6 ls)) ⟨_,0,eX _,0,0,0,0,aA,0,0⟩ (i8 (W2 w b1 b2) l it acc cl) [1] is (Cq it acc cl se 0 ls #[] aA (bP 1113 0)) nd hl (fun _=>.next) (fun x=>Cq it acc cl se x.xe ls x.xs (HW (W2 w b1 b2) b x.m0 x.t x.e0 x.x) x.ito) (fun x=>x.j+1109) (fun x=>x.tk) (fun _=>True) (fun x=>by rw [<- hl];rfl) (by
  intro Γ h g p n tk Q aF hc hg hr k
  refine tw aF hc fun f1 p1 p2=>?_
  obtain ⟨j,rfl⟩:=bY (i:=1) hr rfl
  exact zH ls (hl▸Nat.le_refl _) hb hn ls 0 rfl #[] 0 aA j tk h g p (by rw [List.take_zero];exact ae.nil) .f ⟨fun _=>rfl,fun _=>rfl⟩ (Nat.zero_le _) hg hr fun x h g hg rep=>k x trivial h g hg rep)
end
noncomputable abbrev A4:=fun a b c d=>aa (W2 a b c) dD d (.ref 1113)
noncomputable abbrev AI:=fun a b=>((1113,⟨(.type "list"),none,.seq ((List.map dV a).toArray) b,#[]⟩):Addr×Obj)
noncomputable abbrev AQ:=fun a b c d e f g h i j k=>([AI a b,(c+1109,aL [A4 d e f g] h),(c+1110,⟨(.type "cell"),none,.cell (some (.ref ((i)+1109))),#[]⟩),((i)+1109,(ad (#[Value.int 0 j,Value.int 0 (j+1)]++k) 0))]:Mm)
theorem HX {d:Drawn}{os:OsState}{w:World}{b1 b2:Bool}{j tk:Nat}{l se k0 e0:Nat}{ls:vM}{p4:Pos}(bZ:ls.length<=63) (hb:ls.isEmpty=true) (gb:∀ x:vN (f6 ls),2+x.xs.size<=1000):
  Qb b1 b2 d os fun b1 b2=>⟨Ad w b1 b2,3,(dm (W2 w b1 b2) l p4),d9 (aC (W2 w b1 b2) 0 1) (bJ (W2 w b1 b2) l),[(1113,ad (ls.map dV).toArray se),(l+1109,aL [A4 w b1 b2 k0] e0),(l+1110,uh)],j+1109,tk,.c (Df true l (j+1) (j+2) (j+3) se ls hb bZ [0,4,5,6] (by decide) rfl) fun x1=>.u (oK 3 5 (j+1109) (j+1111) 0 x1.xe #[.int 0 tk,.int 0 (tk+1)] x1.xs (gb x1))<| .e (.e (.done .next) (AQ ls se l w b1 b2 k0 e0 x1.j tk x1.xs) ((x1.j)+1110) ((x1.10)))⟩:=bE 110 (Hx 0x1150505505010112) [[7,4,6,4,0,4,1],[3,3]] [7] 110 [2,1,1,0,1,0,5,0,1] [[7,4,6,4,0,4,1],[3,3]] [7] (by kernel_rfl)
theorem HY {d:Drawn}{os:OsState}{w:World}{b1 b2:Bool}{j tk:Nat}{l se k0 e0:Nat}{ls:vM}{p4:Pos}(bZ:ls.length<=63) (hb:ls.isEmpty=false) (gb:∀ x:vN (f6 ls),2+x.xs.size<=1000):
  Qb b1 b2 d os fun b1 b2=>⟨Ad w b1 b2,3,(dm (W2 w b1 b2) l p4),d9 (aC (W2 w b1 b2) 0 1) (bJ (W2 w b1 b2) l),[(1113,ad (ls.map dV).toArray se),(l+1109,aL [A4 w b1 b2 k0] e0),(l+1110,uh)],j+1109,tk,.c (Df false l (j+1) (j+2) (j+3) se ls hb bZ [0,4,5,6] (by decide) rfl) fun x1=>.u (oK 3 5 (j+1109) (j+1111) 0 x1.xe #[.int 0 tk,.int 0 (tk+1)] x1.xs (gb x1))<| .e (.e (.done .next) (AQ ls se l w b1 b2 k0 e0 x1.j tk x1.xs) ((x1.j)+1110) ((x1.10)))⟩:=bE 114 (Hx 0x1150505505010112) [[7,7,7,4,6,4,0,4,1],[3,3]] [7] 114 [2,1,1,0,1,0,5,0,1] [[7,7,7,4,6,4,0,4,1],[3,3]] [7] (by kernel_rfl)
noncomputable def bo (A:List Int):Int:=max (max (max (max (A.count 0:Int) (A.count 1)) (A.count 2)) (A.count 3)) (A.count 4)
theorem JP {d:Drawn}{os:OsState}{w:World}{b1 b2:Bool}{j tk:Nat}{l t e k0 e0:Nat}{xs:Array Value}{A:List Int}{p4:Pos}(hA:ae xs A) (hn:xs.size<=1000):
  Qw w b1 b2 d os fun W=>⟨E2 W,3,(dm W l p4),d9 (aC W 1 2) (bJ W l),[(l+1109,aL [aa W dD k0 (.ref 1113)] e0),(l+1110,ck (.ref (t+1109))),(t+1109,ad xs e)],j+1109,tk,.u (yF 2 (t+1109) e xs hn)<| .u (mz 2 (t+1109) e xs hA 0 (A.count 0) rfl)<| .u (mz 2 (t+1109) e xs hA 1 (A.count 1) rfl)<| .u (mz 2 (t+1109) e xs hA 2 (A.count 2) rfl)<| .u (mz 2 (t+1109) e xs hA 3 (A.count 3) rfl)<| .u (mz 2 (t+1109) e xs hA 4 (A.count 4) rfl)<| .c (DK true 5 (j+2) 5 #[.int (A.count 0:Int) (tk+8),.int (A.count 1:Int) (tk+11),.int (A.count 2:Int) (tk+14),.int (A.count 3:Int) (tk+17),.int (A.count 4:Int) (tk+20)] #[((A.count 0:Int),tk+8),((A.count 1:Int),tk+11),((A.count 2:Int),tk+14),((A.count 3:Int),tk+17),((A.count 4:Int),tk+20)] (by simp [intItems]) (by simp) (bo A) (Gw _)) fun x9=>.e (.e (.done .next) [(l+1109,aL [aa W dD k0 (.ref 1113),aa W aq (tk+2) (.int (Int.ofNat xs.size) (tk+1)),aa W bI (x9.3) (.int (bo A) (x9.t))] (e0+2)),(l+1110,(ck (.ref (t+1109)))),(t+1109,(ad xs e))] ((x9.j)+1109) ((x9.3)+1))⟩:=bE 390 [0,0,2,0,1] [(Hx 0x11307333327755555550505050505505444040444040440000000011),(Hx 0x113073333277555555505050666060),(Hx 0x113073333277555555505050666060),(Hx 0x113073333277555555505050666060),(Hx 0x113073333277555555505050666060),(Hx 0x11777955505050666060),[1,1]] [] 390 [0,0,2,0,1] [(Hx 0x11307333327755555550505005444040444040440000000011),(Hx 0x113073333277555555505050666060),(Hx 0x113073333277555555505050666060),(Hx 0x113073333277555555505050666060),(Hx 0x113073333277555555505050666060),(Hx 0x11777955505050666060),[1,1]] [] (by kernel_rfl)
section
variable {E:En}{d:Drawn}{os:OsState}
noncomputable def ay.sbN (N:Nat) (X:Type) (x0:X) (code:Code) (ks is:List Nat) (bm:Mm) (nd:is.Nodup) (hl:ah bm=is.length) (f:X->Flow) (m':X->Mm) (n' a8:X->Nat)
  (same:∀ x,((m' x).take is.length).map (·.1)=bm.map (·.1))
  (H:∀ (Γ:Ctx) (h:Heap) (g:Array GenState) (p:Pos) (tk:Nat) (Q:Result->Shared->Prop),Γ.code=code->dW Γ=(none,none,none,ks,some CC)->E.G g->Rep E h is.length bm N h->
   (∀ x h' g',E.G g'->Rep E h is.length (m' x) (n' x) h'->Q (.ok (f x)) ⟨h',g',d,a8 x,os⟩)->wpCode (Mo E) Γ Q p ⟨h,g,d,tk,os⟩):ay E d os where
 X:=X
 x0:=x0
 L:=_
 look q:=(q.code,is.map (Y q.m),dW q.Γ,q.n)
 v:=(code,bm.map some,(none,none,none,ks,some CC),N)
 ans x q:=⟨.pure (.done (f x)),q.p,eC q.m is (m' x),n' x,a8 x,[]⟩
 says _:=True
 holds:=by
  intro V U hs q Q h g e hc hg hr kk
  obtain ⟨e1,e⟩:=Prod.ext_iff.mp e
  obtain ⟨e2,e⟩:=Prod.ext_iff.mp e
  obtain ⟨e3,e4⟩:=Prod.ext_iff.mp e
  dsimp only at e1 e2 e3 e4
  have es:=eD e2
  have f8:ah (aZ q.m is)=is.length:=by rw [es];exact hl
  have dK:=hr.sub is (aE f8) nd
  rw [es,e4] at dK
  refine H q.Γ h g q.p q.tk Q (hc.trans e1) e3 hg dK fun x h' g' bn bS=>?_
  exact kk x trivial h' g' bn (hr.join' is nd f8 bS (by rw [es];exact same x))
end
section
variable {d:Drawn}{os:OsState}{w:World}{b1 b2:Bool}
noncomputable def Dg (j0 t e:Nat) (xs:Array Value) {A:List Int}(hA:ae xs A) (dk:A.length<=sizeLine) (i:Nat):ay (E2 (W2 w b1 b2)) d os:=
 ay.sbN (j0+1109) (DT (A.foldl bq [])) ⟨_,0,dR _,aA,aA,0,0⟩ (.call (.ref 1093) ⟨[.ref (t+1109)],[]⟩) [1] [i] [(t+1109,ad xs e)] (by simp) rfl (fun _=>.ret (.ref (j0+1110))) (fun x=>[(t+1109,ad xs e),(j0+1109,aA),(j0+1110,cnt (j0+1109) x.rs x.rp)]) (fun x=>x.j+1109) (fun x=>x.tk+2) (fun _=>rfl) (by
  intro Γ h g p tk Q aF hc hg hr k
  refine tw aF hc fun f1 p1 p2=>?_
  refine bc (E:=E2 (W2 w b1 b2)) hg hr ?_
  exact DU hA dk p (Nat.le_refl _) fun x _ p' h' g' bn bS=>k x h' g' bn bS)
noncomputable def cLine (j0 a da ep tN:Nat) (N:Int) (es:Array DictEntry) {r:KV}(hT:Tells es r) (dk:r.length < 64) (h0:0 < r.length) (hN:0<=N) (sE:N<=800) (is:List Nat) (nd:is.Nodup) (hl:2=is.length):ay (E2 (W2 w b1 b2)) d os:=
 ay.sbN (j0+1109) (mG N.toNat r) (mG.df N.toNat r) (.call (.ref 1102) ⟨[.ref (a+1109),.int N tN],[]⟩) [1] is [(da+1109,aA),(a+1109,cnt (da+1109) es ep)] nd hl (fun _=>.ret (.ref (j0+1111))) (fun x=>[(da+1109,aA),(a+1109,cnt (da+1109) x.es x.ep),(j0+1111,ad x.ls x.le)]) (fun x=>x.j+1109) (fun x=>x.tk) (fun x=>by rw [<- hl];rfl) (by
  intro Γ h g p tk Q aF hc hg hr k
  refine tw aF hc fun f1 p1 p2=>?_
  refine bc (E:=E2 (W2 w b1 b2)) hg hr ?_
  exact Eo hT dk h0 hN sE p (hl▸Nat.le_refl _) fun x _ p' h' g' bn bS=>k x h' g' bn bS)
noncomputable def Fb (j0 a da ep:Nat) (es:Array DictEntry) {r:KV}(hT:Tells es r) (dk:r.length < 64) (hG:Good r) (hz:aM r<=300) (dx:(a+1109==sysModules)=false) (is:List Nat) (nd:is.Nodup) (hl:2=is.length):ay (E2 (W2 w b1 b2)) d os:=
 ay.sbN (j0+1109) (sM (W2 w b1 b2) a (j0+1) r) (Classical.choice (t7 hG)) (.call (.ref 1107) ⟨[.ref (a+1109)],[]⟩) [1] is [(da+1109,aA),(a+1109,cnt (da+1109) es ep)] nd hl (fun _=>.ret (.ref (j0+1110))) (fun x=>[(da+1109,aA),(a+1109,cnt (da+1109) x.es x.ep),(j0+1110,ad x.ls x.se)]) (fun x=>x.j+1109) (fun x=>x.tk) (fun x=>by rw [<- hl];rfl) (by
  intro Γ h g p tk Q aF hc hg hr k
  refine tw aF hc fun f1 p1 p2=>?_
  refine bc (E:=E2 (W2 w b1 b2)) hg hr ?_
  exact EC hT dk hG hz dx p (hl▸Nat.le_refl _) fun x _ p' h' g' bn bS=>k x h' g' bn bS)
end
theorem JQ {d:Drawn}{os:OsState}{w:World}{b1 b2:Bool}{j tk:Nat}{l t e k0 k1 k2 tN e0:Nat}{N:Int}{q2:Value}{xs:Array Value}{A:List Int}{p4:Pos}(hA:ae xs A) (dk:A.length<=sizeLine) (Fc:(A.foldl bq []).length < 64) (JR:0 < (A.foldl bq []).length) (hN:0<=N) (sE:N<=800):
  Qb b1 b2 d os fun b1 b2=>⟨Ad w b1 b2,3,(dm (W2 w b1 b2) l p4),d9 (aC (W2 w b1 b2) 3 2) (bJ (W2 w b1 b2) l),[(l+1109,aL [A4 w b1 b2 k0,AH w b1 b2 aq k1 N tN,Ai w b1 b2 bI k2 q2] e0),(l+1110,ck (Aa t)),Ak t xs e],j+1109,tk,.c (Dg j t e xs hA dk 2) fun x1=>.c (cLine x1.j (j+1) j x1.rp tN N x1.rs x1.hT Fc JR hN sE [3,4] (by decide) rfl) fun x2=>.e (.e (.done .next) [(l+1109,aL [A4 w b1 b2 k0,AH w b1 b2 aq k1 N tN,Ai w b1 b2 bI k2 q2,aa (W2 w b1 b2) bL ((x1.tk)+2) (.ref (j+1110)),Ai w b1 b2 bX (x2.12) (.ref ((x1.j)+1111))] (e0+2)),(l+1110,(Al t)),Ax t xs e,Ab j,(j+1110,Ac j (mG.es x2) (x2.ep)),((x1.j)+1111,(ad (mG.ls x2) (x2.le)))] ((x2.j)+1109) ((x2.12)+1))⟩:=bE 98 [0,2,0,0,1] [[1,1,0,1,1,0,1],[1,1]] [3,4,5] 98 [0,2,0,0,1] [[1,1,0,1,1,0,1],[1,1]] [3,4,5] (by kernel_rfl)
section
variable {base g hi dp i j k n:Nat}{kv:Int}{left:Bool}
noncomputable def nu (p:Keyed):Int:=numOf p.1
noncomputable def gE (p:Keyed):Prop:=∃ n t,p.1=.int n t
noncomputable def JS:Bool->Keyed->Array Keyed->Nat->Nat->Nat->StateT SortSt Sem (Option Nat):=sortPriv% PySem.Builtin.gallop
noncomputable def bd (left:Bool) (kv:Int) (arr:Array Keyed) (i:Nat):Bool:=match left with | true=>decide (K arr i < kv) | false=>!decide (kv < K arr i)
theorem cE {arr:Array Keyed}(hi:i < arr.size):K arr i=nu arr[i]:=by unfold K nu;rw [getElem?_pos arr i hi]
theorem ap {σ α:Type}{M:Model}{A:Around}{E:Value->Shared->Prop}{s:Shared}{c:Prop}[Decidable c] {t e:StateT σ Sem α}{Q:α->σ->Prop}{st:σ}(h:c) (ht:wpS M A E s t Q st):wpS M A E s (ite c t e) Q st:=by
 rw [if_pos h];exact ht
theorem ao {σ α:Type}{M:Model}{A:Around}{E:Value->Shared->Prop}{s:Shared}{c:Prop}[Decidable c] {t e:StateT σ Sem α}{Q:α->σ->Prop}{st:σ}(h:¬ c) (ht:wpS M A E s e Q st):wpS M A E s (ite c t e) Q st:=by
 rw [if_neg h];exact ht
section
variable {prog:Program}{w:World}{A:Around}{E:Value->Shared->Prop}{s:Shared}{st:SortSt}
theorem aU {arr:Array Keyed}(hi:i < arr.size) {Q:Keyed->SortSt->Prop}(h:Q arr[i] st):wpS (model prog w) A E s (elem' arr i) Q st:=by
 rw [elem'_eq,getElem?_pos arr i hi];exact wpS_pure h
theorem jS {x y:Keyed}(hx:gE x) (hy:gE y) (hk:kindOf st=oneType') {Q:Option Bool->SortSt->Prop}(h:Q (some (decide (nu x < nu y))) st):wpS (model prog w) A E s (lt' x y) Q st:=by
 obtain ⟨x1,x2⟩:=x
 obtain ⟨y1,y2⟩:=y
 obtain ⟨a,t,rfl⟩:=hx
 obtain ⟨b,u,rfl⟩:=hy
 rw [lt'_eq]
 refine wpS_bind (wpS_get ?_)
 rw [hk,keyLt'_oneType]
 exact wpS_bind (wpS_lift (wpAny_attempt (oneLt_int ⟨rfl,wpS_pure h⟩)))
theorem zI {key : Keyed} {arr : Array Keyed} (hi : i < arr.size) (hI : gE arr[i]) (uj : gE key) (hk : kindOf st = oneType') {Q : Option Bool -> SortSt -> Prop} (h : Q (some (bd left (nu key) arr i)) st) :
    wpS (model prog w) A E s (do let x <- elem' arr i; if left = true then lt' x key else do let r <- lt' key x; pure (Option.map (fun x => !x) r)) Q st := by
  refine wpS_bind (aU hi ?_)
  unfold bd at h
  rw [cE hi] at h
  cases left with
  | true => exact jS hI uj hk h
  | false => exact wpS_bind (jS uj hI hk (wpS_pure h))
theorem Fd {lo:Nat}(h:lo < hi):lo<=lo+(hi - lo) / 2/\lo+(hi - lo) / 2 < hi:=by lia
structure GP (n:Nat) (b:Nat->Bool) (x lo hi:Nat):Prop where
 g1:lo<=hi
 g2:hi<=n
 g3:hi+x<=n+lo
 g4:∀ i,i < lo->b i=true
 g5:∀ i,hi<=i->i < n->b i=false
inductive G2 {σ β:Type}(st:σ) (P:Nat->Nat->Prop):Option β×Nat×Nat->σ->Prop
 | mk {la o}:P la o->G2 st P (none,la,o) st
theorem zJ {σ:Type}{M:Model}{st:σ}{b:Nat->Bool}{F:Nat->Option (Option Nat)×Nat×Nat->StateT σ Sem (ForInStep (Option (Option Nat)×Nat×Nat))}
  (h1:∀ x lo,F x (none,lo,lo)=pure (.done (none,lo,lo)))
  (h2:∀ x lo hi,lo < hi->hi<=n->wpS M A E s (F x (none,lo,hi)) (fun r af=>af=st/\r=if b (lo+(hi - lo) / 2)=true then .yield (none,lo+(hi - lo) / 2+1,hi) else .yield (none,lo,lo+(hi - lo) / 2)) st)
  (mono:∀ i j,i<=j->j < n->b j=true->b i=true) {lo:Nat}(Dt:lo<=hi) (HZ:hi<=n) (ht:∀ i,i < lo->b i=true) (hf:∀ i,hi<=i->i < n->b i=false)
  {Q:Option (Option Nat)×Nat×Nat->σ->Prop}(h:∀ k,k<=n->(∀ i,i < k->b i=true)->(∀ i,k<=i->i < n->b i=false)->Q (none,k,k) st):
  wpS M A E s (forIn [:n] (none,lo,hi) F) Q st:=by
 refine wpS_forRange (I:=fun x c af=>G2 st (GP n b x) c af) ?_ ?_ (.mk ⟨Dt,HZ,Nat.le_trans (Nat.le_of_eq (Nat.add_zero hi)) (Nat.le_add_right_of_le HZ),ht,hf⟩)
 ·rintro x c af _ hx @⟨lo,hi,g⟩
  by_cases e:lo=hi
  ·subst e
   rw [h1]
   exact wpS_pure (h lo g.g2 g.g4 g.g5)
  ·have lt:=Nat.lt_of_le_of_ne g.g1 e
   refine wpS_mono (h2 x lo hi lt g.g2) fun r dH hr=>?_
   obtain ⟨rfl,rfl⟩:=hr
   have hm:=Fd lt
   have g3:=g.g3
   have g2:=g.g2
   generalize lo+(hi - lo) / 2=m at hm ⊢
   cases q:b m with
   | true=>exact .mk ⟨hm.2,g2,by lia,fun i eP=>mono i _ (Nat.le_of_lt_succ eP) (Nat.lt_of_lt_of_le hm.2 g2) q,g.g5⟩
   | false=>
    refine .mk ⟨hm.1,Nat.le_trans (Nat.le_of_lt hm.2) g2,by lia,g.g4,fun i h3 h4=>?_⟩
    cases z:b i with
    | false=>rfl
    | true=>rw [mono _ i h3 h4 z] at q;cases q
 ·rintro c af @⟨lo,hi,g⟩
  have:lo=hi:=Nat.le_antisymm g.g1 (by have:=g.g3;rw [Nat.zero_max] at this;lia)
  subst this
  exact h lo g.g2 g.g4 g.g5
theorem gF {key : Keyed} {arr : Array Keyed} {Q : Option Nat -> SortSt -> Prop} (hk : kindOf st = oneType') (uj : gE key) (hn : base + n <= arr.size) (hI : ∀ i (h : i < arr.size), gE arr[i]) (hh : dp < n)
    (mono : ∀ i j, i <= j -> j < n -> bd left (nu key) arr (base + j) = true -> bd left (nu key) arr (base + i) = true)
    (h : ∀ k, k <= n -> (∀ i, i < k -> bd left (nu key) arr (base + i) = true) -> (∀ i, k <= i -> i < n -> bd left (nu key) arr (base + i) = false) -> Q (some k) st) :
    wpS (model prog w) A E s (JS left key arr base n dp) Q st := by
  have vO : ∀ {i : Nat} {P : Option Bool -> SortSt -> Prop}, i < n -> P (some (bd left (nu key) arr (base + i))) st -> wpS (model prog w) A E s (do let x <- elem' arr (base + i); if left = true then lt' x key else do let r <- lt' key x; pure (Option.map (fun x => !x) r)) P st :=
    fun hi hp => zI (Nat.lt_of_lt_of_le (Nat.add_lt_add_left hi base) hn) (hI _ _) uj hk hp
  generalize hB : (fun i => bd left (nu key) arr (base + i)) = b at *
  have eB : ∀ i, bd left (nu key) arr (base + i) = b i := fun i => congrFun hB i
  simp only [eB] at mono h vO
  clear eB hB
  have bf : ∀ i j, i <= j -> j < n -> b i = false -> b j = false := fun i j h1 h2 h3 => by
    cases q : b j with
    | false => rfl
    | true => rw [mono i j h1 h2 q] at h3; cases h3
  have H0 : ∀ {lo hi : Nat} {F : Nat -> Option (Option Nat) × Nat × Nat -> StateT SortSt Sem (ForInStep (Option (Option Nat) × Nat × Nat))} (_ : ∀ x lo, F x (none, lo, lo) = pure (.done (none, lo, lo)))
     (_ : ∀ x lo hi, lo < hi -> hi <= n -> wpS (model prog w) A E s (F x (none, lo, hi)) (fun r af => af = st /\ r = if b (lo + (hi - lo) / 2) = true then .yield (none, lo + (hi - lo) / 2 + 1, hi) else .yield (none, lo, lo + (hi - lo) / 2)) st)
     (_ : lo <= hi) (_ : hi <= n) (_ : ∀ i, i < lo -> b i = true) (_ : ∀ i, hi <= i -> i < n -> b i = false) {G : Option (Option Nat) × Nat × Nat -> StateT SortSt Sem (Option Nat)} (_ : ∀ k, G (none, k, k) = pure (some k)),
     wpS (model prog w) A E s (forIn [:n] (none, lo, hi) F >>= G) Q st := by
    intro lo hi F h1 h2 h3 h4 h5 h6 G h7
    exact wpS_bind (zJ h1 h2 mono h3 h4 h5 h6 fun k k1 k2 k3 => (h7 k).symm ▸ wpS_pure (h k k1 k2 k3))
  refine wpS_bind (vO hh ?_)
  cases q : b dp with
  | true =>
    refine wpS_bind (wpS_mono (wpS_forRange (I := fun x c af => G2 st (fun la o => (la < o /\ x < o /\ dp + la < n) /\ b (dp + la) = true) c af)
      (Q := fun c af => G2 st (fun la o => (la < o /\ dp + la < n) /\ b (dp + la) = true /\ (n - dp <= o ∨ b (dp + o) = false)) c af) ?step ?fin ?init) ?post)
    case init => exact .mk ⟨⟨Nat.one_pos, Nat.one_pos, hh⟩, q⟩
    case fin =>
      rintro c af @⟨la, o, g⟩
      exact .mk ⟨⟨g.1.1, g.1.2.2⟩, g.2, .inl (Nat.le_trans (Nat.sub_le ..) (Nat.le_trans (Nat.le_max_right ..) (Nat.le_of_lt g.1.2.1)))⟩
    case step =>
      rintro x c af _ hx @⟨la, o, g⟩
      dsimp only
      by_cases ho : o ≥ n - dp
      · refine ap ho ?_
        exact wpS_pure (.mk ⟨⟨g.1.1, g.1.2.2⟩, g.2, .inl ho⟩)
      · refine ao ho ?_
        have ho := Nat.add_lt_of_lt_sub' (Nat.lt_of_not_le ho)
        refine wpS_bind (vO ho ?_)
        cases q2 : b (dp + o) with
        | true => exact wpS_pure (.mk ⟨⟨by lia, by have := g.1.2.1; lia, ho⟩, q2⟩)
        | false => exact wpS_pure (.mk ⟨⟨g.1.1, g.1.2.2⟩, g.2, .inr q2⟩)
    case post =>
      rintro c af @⟨la, o, g⟩
      refine H0 ?_ ?_ ?_ ?_ (fun i hi => mono i _ (Nat.le_of_lt_succ hi) g.1.2 g.2.1) (fun i h1 h2 => ?_) fun _ => rfl
      · intro x lo
        exact if_pos (Nat.le_refl _)
      · intro x lo hi h1 h2
        dsimp only
        refine ao (Nat.not_le.mpr h1) ?_
        refine wpS_bind (vO (Nat.lt_of_lt_of_le (Fd h1).2 h2) ?_)
        cases b (lo + (hi - lo) / 2) <;> exact wpS_pure ⟨rfl, rfl⟩
      · exact Nat.add_le_add_left (Nat.le_min.mpr ⟨g.1.1, Nat.le_sub_of_add_le' g.1.2⟩) dp
      · exact Nat.le_trans (Nat.add_le_add_left (Nat.min_le_right ..) dp) (Nat.le_of_eq (Nat.add_sub_cancel' (Nat.le_of_lt hh)))
      · rcases g.2.2 with g4 | g4
        · rw [Nat.min_eq_right g4, Nat.add_sub_cancel' (Nat.le_of_lt hh)] at h1
          exact absurd h1 (Nat.not_le.mpr h2)
        · rcases Nat.le_total o (n - dp) with c | c
          · rw [Nat.min_eq_left c] at h1
            exact bf _ i h1 h2 g4
          · rw [Nat.min_eq_right c, Nat.add_sub_cancel' (Nat.le_of_lt hh)] at h1
            exact absurd h1 (Nat.not_le.mpr h2)
  | false =>
    refine wpS_bind (wpS_mono (wpS_forRange (I := fun x c af => G2 st (fun la o => (la < o /\ x < o /\ la <= dp) /\ b (dp - la) = false) c af)
      (Q := fun c af => G2 st (fun la o => (la < o /\ la <= dp) /\ b (dp - la) = false /\ (dp + 1 <= o ∨ b (dp - o) = true)) c af) ?step ?fin ?init) ?post)
    case init => exact .mk ⟨⟨Nat.one_pos, Nat.one_pos, Nat.zero_le _⟩, q⟩
    case fin =>
      rintro c af @⟨la, o, g⟩
      exact .mk ⟨⟨g.1.1, g.1.2.2⟩, g.2, .inl (Nat.le_trans hh (Nat.le_trans (Nat.le_max_right ..) (Nat.le_of_lt g.1.2.1)))⟩
    case step =>
      rintro x c af _ hx @⟨la, o, g⟩
      dsimp only
      by_cases ho : o ≥ dp + 1
      · refine ap ho ?_
        exact wpS_pure (.mk ⟨⟨g.1.1, g.1.2.2⟩, g.2, .inl ho⟩)
      · refine ao ho ?_
        refine wpS_bind (vO (Nat.lt_of_le_of_lt (Nat.sub_le ..) hh) ?_)
        cases q2 : b (dp - o) with
        | true => exact wpS_pure (.mk ⟨⟨g.1.1, g.1.2.2⟩, g.2, .inr q2⟩)
        | false => exact wpS_pure (.mk ⟨⟨by lia, by have := g.1.2.1; lia, Nat.le_of_lt_succ (Nat.lt_of_not_le ho)⟩, q2⟩)
    case post =>
      rintro c af @⟨la, o, g⟩
      refine H0 ?_ ?_ ?_ ?_ (fun i hi => ?_) (fun i h1 h2 => bf _ i h1 h2 g.2.1) fun _ => rfl
      · intro x lo
        exact if_pos (Nat.le_refl _)
      · intro x lo hi h1 h2
        dsimp only
        refine ao (Nat.not_le.mpr h1) ?_
        refine wpS_bind (vO (Nat.lt_of_lt_of_le (Fd h1).2 h2) ?_)
        cases b (lo + (hi - lo) / 2) <;> exact wpS_pure ⟨rfl, rfl⟩
      · have hm : la + 1 <= min o (dp + 1) := Nat.le_min.mpr ⟨g.1.1, Nat.succ_le_succ g.1.2⟩
        exact Nat.le_trans (Nat.sub_le_sub_left hm _) (Nat.le_of_eq (Nat.add_sub_add_right ..))
      · exact Nat.le_trans (Nat.sub_le ..) (Nat.le_of_lt hh)
      · rcases g.2.2 with g4 | g4
        · rw [Nat.min_eq_right g4, Nat.sub_self] at hi
          exact absurd hi (Nat.not_lt_zero _)
        · refine mono i _ ?_ (Nat.lt_of_le_of_lt (Nat.sub_le ..) hh) g4
          rcases Nat.le_total o (dp + 1) with c | c
          · rw [Nat.min_eq_left c] at hi
            lia
          · rw [Nat.min_eq_right c, Nat.sub_self] at hi
            exact absurd hi (Nat.not_lt_zero _)
end
noncomputable abbrev Ri (p q:Keyed):Prop:=nu p<=nu q
noncomputable def iE (W:List Keyed) (r:Array Keyed):Prop:=r.toList.Perm W/\r.toList.Pairwise Ri
theorem cw {a:Array Keyed}{p:Keyed}(h:p∈(a.extract i k).toList):∃ m,i<=m/\m < k/\m < a.size/\nu p=K a m:=by
 obtain ⟨j,hj,rfl⟩:=List.getElem_of_mem h
 rw [Array.length_toList,Array.size_extract] at hj
 exact ⟨i+j,by lia,by lia,by lia,by rw [cE (by lia),Array.getElem_toList,Array.getElem_extract]⟩
theorem d7 {a:Array Keyed}(sa:SortedTo a a.size) (i k:Nat):(a.extract i k).toList.Pairwise Ri:=by
 rw [List.pairwise_iff_getElem]
 intro x y hx hy JT
 rw [Array.length_toList,Array.size_extract] at hx hy
 rw [Array.getElem_toList,Array.getElem_toList,Array.getElem_extract,Array.getElem_extract]
 show nu _<=nu _
 rw [<- cE (by lia),<- cE (by lia)]
 exact sa _ _ (by lia) (by lia)
theorem fk (a:Array Keyed) (h1:i<=j) (h2:j<=k):(a.extract i k).toList=(a.extract i j).toList++(a.extract j k).toList:=by
 rw [<- Array.toList_append,Array.extract_append_extract,Nat.min_eq_left h1,Nat.max_eq_right h2]
theorem nV {a out:Array Keyed}(h:i < a.size):out.push a[i]=out++a.extract i (i+1):=by
 apply Array.toList_inj.mp
 rw [Array.toList_push,Array.toList_append,Array.toList_extract,List.extract_eq_take_drop,Nat.add_sub_cancel_left,List.drop_eq_getElem_cons (by simpa using h)]
 rfl
structure ML (W:List Keyed) (a b out:Array Keyed) (ia ib:Nat):Prop where
 perm:(out.toList++((a.extract ia a.size).toList++(b.extract ib b.size).toList)).Perm W
 so:out.toList.Pairwise Ri
 lA:∀ p∈out.toList,∀ m,ia<=m->m < a.size->nu p<=K a m
 lB:∀ p∈out.toList,∀ m,ib<=m->m < b.size->nu p<=K b m
section
variable {W:List Keyed}{a b out:Array Keyed}{ia ib:Nat}
theorem ML.swap (h:ML W a b out ia ib):ML W b a out ib ia:=⟨(List.perm_append_comm.append_left _).trans h.perm,h.so,h.lB,h.lA⟩
theorem ML.app (h:ML W a b out ia ib) (sa:SortedTo a a.size) (hk:ia+k<=a.size) (hx:∀ m,ia<=m->m < ia+k->∀ m',ib<=m'->m' < b.size->K a m<=K b m'):ML W a b (out++a.extract ia (ia+k)) (ia+k) ib:=by
 refine ⟨?_,?_,?_,?_⟩
 ·have z:=h.perm
  rw [fk a (Nat.le_add_right ia k) hk] at z
  rw [Array.toList_append]
  simpa [List.append_assoc] using z
 ·rw [Array.toList_append,List.pairwise_append]
  refine ⟨h.so,d7 sa _ _,fun p hp q hq=>?_⟩
  obtain ⟨m,m1,m2,m3,e⟩:=cw hq
  show nu p<=nu q
  rw [e]
  exact h.lA p hp m m1 m3
 ·intro p hp m h1 h2
  rw [Array.toList_append,List.mem_append] at hp
  rcases hp with hp | hp
  ·exact h.lA p hp m (by lia) h2
  ·obtain ⟨m',m1,m2,m3,e⟩:=cw hp
   rw [e]
   exact sa _ _ (by lia) h2
 ·intro p hp m h1 h2
  rw [Array.toList_append,List.mem_append] at hp
  rcases hp with hp | hp
  ·exact h.lB p hp m h1 h2
  ·obtain ⟨m',m1,m2,m3,e⟩:=cw hp
   rw [e]
   exact hx _ m1 m2 _ h1 h2
theorem ML.push (h:ML W a b out ia ib) (sa:SortedTo a a.size) (hk:ia < a.size) (hx:∀ m',ib<=m'->m' < b.size->K a ia<=K b m'):ML W a b (out.push a[ia]) (ia+1) ib:=by
 rw [nV hk]
 exact h.app sa hk fun m h1 h2=>by
  have:m=ia:=by lia
  exact this▸hx
theorem ML.end (h:ML W a b out ia ib) (sa:SortedTo a a.size) (sb:SortedTo b b.size) (hc:∀ m,ia<=m->m < a.size->∀ m',ib<=m'->m' < b.size->K a m<=K b m'):iE W (out++a.extract ia a.size++b.extract ib b.size):=by
 refine ⟨by rw [Array.toList_append,Array.toList_append,List.append_assoc];exact h.perm,?_⟩
 rw [Array.toList_append,Array.toList_append,List.append_assoc,List.pairwise_append,List.pairwise_append]
 refine ⟨h.so,⟨d7 sa _ _,d7 sb _ _,fun p hp q hq=>?_⟩,fun p hp q hq=>?_⟩
 ·obtain ⟨m,m1,m2,m3,e⟩:=cw hp
  obtain ⟨m',n1,n2,n3,e'⟩:=cw hq
  show nu p<=nu q
  rw [e,e']
  exact hc m m1 m3 m' n1 n3
 ·show nu p<=nu q
  rcases List.mem_append.mp hq with hq | hq
  ·obtain ⟨m,m1,m2,m3,e⟩:=cw hq
   rw [e];exact h.lA p hp m m1 m3
  ·obtain ⟨m,m1,m2,m3,e⟩:=cw hq
   rw [e];exact h.lB p hp m m1 m3
end
noncomputable def JU:Array Keyed->Array Keyed->StateT SortSt Sem (Array Keyed):=sortPriv% PySem.Builtin.mergeLo
noncomputable def JV:Array Keyed->Array Keyed->StateT SortSt Sem (Array Keyed):=sortPriv% PySem.Builtin.mergeHi
structure SG (st af:SortSt):Prop where
 k:kindOf af=kindOf st
 a:PyProof.Rows.arrOf af=PyProof.Rows.arrOf st
 p:pendingOf af=pendingOf st
 f:failedOf af=failedOf st
theorem re {arr:Array Keyed}:(bd true kv arr i=true↔K arr i < kv)/\(bd true kv arr i=false↔kv<=K arr i):=by
 unfold bd;constructor<;>simp
theorem rg {arr:Array Keyed}:(bd false kv arr i=true↔K arr i<=kv)/\(bd false kv arr i=false↔kv < K arr i):=by
 unfold bd;constructor<;>simp
theorem jT {arr:Array Keyed}(base n:Nat) (sa:SortedTo arr arr.size) (hn:base+n<=arr.size) (i j:Nat) (BG:i<=j) (hj:j < n) (h:bd left kv arr (base+j)=true):bd left kv arr (base+i)=true:=by
 have z:=sa (base+i) (base+j) (by lia) (by lia)
 cases left with
 | true=>rw [re.1] at h ⊢;lia
 | false=>rw [rg.1] at h ⊢;lia
noncomputable abbrev Fe:=Array Keyed×Nat×Nat×Nat×Nat×Nat
structure Ff (W:List Keyed) (a b:Array Keyed) (x:Nat) (st af:SortSt) (out:Array Keyed) (ia ib:Nat):Prop where
 s:SG st af
 m:ML W a b out ia ib
 b1:ia+1 < a.size
 b2:ib < b.size
 b3:x < ia+ib
inductive H1 (W:List Keyed) (a b:Array Keyed) (x:Nat) (st af:SortSt):Option (Array Keyed)×Array Keyed×Nat×Nat×Nat->Prop
 | mk {out ia ib g}:Ff W a b x st af out ia ib->H1 W a b x st af (none,out,ia,ib,g)
inductive Fg (W:List Keyed) (a b:Array Keyed) (x:Nat) (st af:SortSt):Option (Array Keyed)×Array Keyed×Nat×Nat×Nat×Nat->Prop
 | mk {out ia ib u v}:Ff W a b x st af out ia ib->Fg W a b x st af (none,out,ia,ib,u,v)
inductive Cr (W:List Keyed) (a b:Array Keyed) (x:Nat) (st:SortSt):Option (Array Keyed)×Fe->SortSt->Prop
 | mk {out ia ib g u v af}:Ff W a b (x+1) st af out ia ib->Cr W a b x st (none,out,ia,ib,g,u,v) af
inductive s0 {β:Type}(W:List Keyed) (st af:SortSt):Option (Array Keyed)×β->Prop
 | mk {r c}:SG st af->iE W r->s0 W st af (some r,c)
noncomputable def H2 (W:List Keyed) (a b:Array Keyed) (x:Nat) (st:SortSt) (c:Option (Array Keyed)×Fe) (af:SortSt):Prop:=s0 W st af c∨Cr W a b x st c af
noncomputable abbrev Fh (W:List Keyed) (a b:Array Keyed) (x:Nat) (st:SortSt) (r:ForInStep (Option (Array Keyed)×Fe)) (af:SortSt):Prop:=match r with
 | .done c=>H2 W a b x st c af
 | .yield c=>Cr W a b x st c af
section
variable {prog:Program}{w:World}{A:Around}{E:Value->Shared->Prop}{s:Shared}{st:SortSt}
theorem iQ {H3:SortSt}(hs:SG H3 st) {Q:PUnit->SortSt->Prop}(h:∀ af,SG H3 af->Q ⟨⟩ af):
  wpS (model prog w) A E s ((sortPriv% PySem.Builtin.setMinGallop) g) Q st:=wpS_modify (h _ ⟨hs.k,hs.a,hs.p,hs.f⟩)
theorem zK {a b:Array Keyed}(hk:kindOf st=oneType') (iA:∀ i (h:i < a.size),gE a[i]) (iB:∀ i (h:i < b.size),gE b[i]) (sa:SortedTo a a.size) (sb:SortedTo b b.size) (ha:0 < a.size) (hb:0 < b.size)
  (h1:∀ m,m < a.size->K b 0<=K a m) (h2:∀ m,m < b.size->K b m<=K a (a.size - 1)) {Q:Array Keyed->SortSt->Prop}(h:∀ r af,SG st af->iE (a.toList++b.toList) r->Q r af):wpS (model prog w) A E s (JU a b) Q st:=by
 have hW:(a.toList++b.toList).length=a.size+b.size:=by simp
 have I0:ML (a.toList++b.toList) a b (#[].push b[0]) 0 1:=by
  have z:ML (a.toList++b.toList) a b #[] 0 0:=⟨by simp,List.Pairwise.nil,fun p hp=>(nomatch hp),fun p hp=>(nomatch hp)⟩
  exact (z.swap.push sb hb fun m _ hm=>h1 m hm).swap
 -- the two ends
 have eB:∀ {out ia ib},ML (a.toList++b.toList) a b out ia ib->ib=b.size->iE (a.toList++b.toList) (out++a.extract ia a.size++b.extract ib b.size):=fun hm e=>hm.end sa sb fun m _ _ m' x y=>by lia
 have eA:∀ {out ia ib},ML (a.toList++b.toList) a b out ia ib->ia+1=a.size->iE (a.toList++b.toList) (out++b.extract ib b.size++a.extract ia a.size):=fun hm e=>by
  have z:=hm.swap.end sb sa fun m _ x m' y y'=>by
   have:m'=a.size - 1:=by lia
   subst this
   exact h2 m x
  exact z
 refine wpS_bind (wpS_lift (wpAny_rule ⟨rfl,?_⟩))
 refine wpS_bind (aU hb ?_)
 by_cases e1:1=b.size
 ·refine (?_:wpS _ _ _ _ (ite ((1==b.size)=true) _ _) _ _)
  refine ap (by simpa using e1) ?_
  exact wpS_pure (h _ _ ⟨rfl,rfl,rfl,rfl⟩ (eB I0 e1))
 refine (?_:wpS _ _ _ _ (ite ((1==b.size)=true) _ _) _ _)
 refine ao (by simpa using e1) ?_
 by_cases e2:1=a.size
 ·refine ap (by simpa using e2) ?_
  exact wpS_pure (h _ _ ⟨rfl,rfl,rfl,rfl⟩ (eA I0 (by lia)))
 refine ao (by simpa using e2) ?_
 refine wpS_bind (wpS_get ?_)
 refine wpS_bind (wpS_mono (wpS_forRange (I:=fun x c af=>H1 (a.toList++b.toList) a b x st af c) (Q:=fun c af=>s0 (a.toList++b.toList) st af c) ?step ?fin ?init) ?post)
 case init=>exact .mk ⟨⟨rfl,rfl,rfl,rfl⟩,I0,by lia,by lia,by lia⟩
 case fin=>
  rintro c af @⟨_,_,_,_,⟨_,_,_,_,_⟩⟩
  lia
 case post=>
  rintro c af ⟨hs,hr⟩
  exact wpS_pure (h _ af hs hr)
 case step=>
  rintro x c JW _ hx @⟨out,ia,ib,g,I⟩
  refine wpS_bind (wpS_mono (wpS_forRange (I:=fun y c af=>Fg (a.toList++b.toList) a b (x+y) st af c) (Q:=fun c af=>s0 (a.toList++b.toList) st af c∨Fg (a.toList++b.toList) a b (x+1) st af c) ?step1 ?fin1 ?init1) ?post1)
  case init1=>exact .mk I
  case fin1=>
   rintro c af @⟨_,_,_,_,_,⟨hs,hm,b1,b2,b3⟩⟩
   exact .inr (.mk ⟨hs,hm,b1,b2,by lia⟩)
  case step1=>
   rintro y c dH _ hy @⟨out,ia,ib,u,v,⟨hs,hm,b1,b2,b3⟩⟩
   refine wpS_bind (aU b2 (wpS_bind (aU (i:=ia) (by lia) (wpS_bind (jS (iB _ _) (iA _ _) (hs.k.trans hk) ?_)))))
   rw [<- cE,<- cE]
   by_cases q:K b ib < K a ia
   ·rw [decide_eq_true q]
    refine wpS_bind (aU b2 ?_)
    have fw:=(hm.swap.push sb b2 fun m' c1 c2=>Int.le_trans (Int.le_of_lt q) (sa _ _ c1 c2)).swap
    refine (?_:wpS _ _ _ _ (ite ((ib+1==b.size)=true) _ _) _ _)
    by_cases e:ib+1=b.size
    ·refine ap (by simpa using e) ?_
     exact wpS_pure (.inl (.mk hs (eB fw e)))
    ·refine ao (by simpa using e) ?_
     by_cases z:v+1≥g
     ·refine ap z ?_
      exact wpS_pure (.inr (.mk ⟨hs,fw,b1,by lia,by lia⟩))
     ·refine ao z ?_
      exact wpS_pure (.mk ⟨hs,fw,b1,by lia,by lia⟩)
   ·rw [decide_eq_false q]
    refine wpS_bind (aU (i:=ia) (by lia) ?_)
    have fw:=hm.push sa (by lia) fun m' c1 c2=>Int.le_trans (Int.not_lt.mp q) (sb _ _ c1 c2)
    refine (?_:wpS _ _ _ _ (ite ((ia+1+1==a.size)=true) _ _) _ _)
    by_cases e:ia+1+1=a.size
    ·refine ap (by simpa using e) ?_
     exact wpS_pure (.inl (.mk hs (eA fw e)))
    ·refine ao (by simpa using e) ?_
     by_cases z:u+1≥g
     ·refine ap z ?_
      exact wpS_pure (.inr (.mk ⟨hs,fw,by lia,b2,by lia⟩))
     ·refine ao z ?_
      exact wpS_pure (.mk ⟨hs,fw,by lia,b2,by lia⟩)
  case post1=>
   rintro c dH (⟨hs,hr⟩ | @⟨out,ia,ib,u,v,I2⟩)
   ·exact wpS_pure (.mk hs hr)
   refine wpS_bind (wpS_lift (wpAny_rule ⟨rfl,?_⟩))
   refine wpS_bind (wpS_mono (wpS_forRange (I:=fun _=>Cr (a.toList++b.toList) a b x st) (Q:=H2 (a.toList++b.toList) a b x st) ?step2 ?fin2 ?init2) ?post2)
   case init2=>exact .mk I2
   case fin2=>exact fun c af h=>.inr h
   case post2=>
    rintro c du (⟨hs,hr⟩ | @⟨out,ia,ib,g,u,v,_,I3⟩)
    ·exact wpS_pure (.mk hs hr)
    ·exact wpS_bind (iQ I3.s fun af hs=>wpS_pure (.mk ⟨hs,I3.m,I3.b1,I3.b2,I3.b3⟩))
   case step2=>
    rintro y c du _ hy @⟨out,ia,ib,g,u,v,_,⟨hs,hm,b1,b2,b3⟩⟩
    extract_lets _ _ _ _ _ _ _ _ _ _ _ _ jp
    have key:∀ mg,wpS (model prog w) A E s (jp () mg) (Fh (a.toList++b.toList) a b x st) du:=by
     intro mg
     refine wpS_bind (iQ hs fun jy hs=>?_)
     refine wpS_bind (aU b2 (wpS_bind (gF (base:=ia) (n:=a.size - ia) (hs.k.trans hk) (iB _ _) (by lia) iA (by lia) (jT _ _ sa (by lia)) fun k k1 k2 k3=>?_)))
     rw [<- cE] at k2 k3
     simp only [rg.1] at k2
     simp only [rg.2] at k3
     dsimp -zeta only
     extract_lets _ jp2
     have kX:∀ out ia,ML (a.toList++b.toList) a b out ia ib->ia+1 < a.size->x+1 < ia+ib->(∀ m,ia<=m->m < a.size->K b ib<=K a m)->wpS (model prog w) A E s (jp2 () out ia) (Fh (a.toList++b.toList) a b x st) jy:=by
      intro out ia hm b1 b3 oP
      refine wpS_bind (aU b2 ?_)
      have fw:=(hm.swap.push sb b2 oP).swap
      refine (?_:wpS _ _ _ _ (ite ((ib+1==b.size)=true) _ _) _ _)
      by_cases e:ib+1=b.size
      ·refine ap (by simpa using e) ?_
       exact wpS_pure (.inl (.mk hs (eB fw e)))
      refine ao (by simpa using e) ?_
      refine wpS_bind (aU (i:=ia) (by lia) (wpS_bind (gF (base:=ib+1) (n:=b.size - (ib+1)) (hs.k.trans hk) (iA _ _) (by lia) iB (by lia) (jT _ _ sb (by lia)) fun k k1 k2 k3=>?_)))
      rw [<- cE] at k2 k3
      simp only [re.1] at k2
      simp only [re.2] at k3
      dsimp -zeta only
      extract_lets _ _ jp3
      have rh:∀ out ib,ML (a.toList++b.toList) a b out ia ib->ib < b.size->x+1 < ia+ib->(∀ m,ib<=m->m < b.size->K a ia<=K b m)->wpS (model prog w) A E s (jp3 () out ib) (Fh (a.toList++b.toList) a b x st) jy:=by
       intro out ib hm b2 b3 oP
       refine wpS_bind (aU (i:=ia) (by lia) ?_)
       have gf:=hm.push sa (by lia) oP
       refine (?_:wpS _ _ _ _ (ite ((ia+1+1==a.size)=true) _ _) _ _)
       by_cases e:ia+1+1=a.size
       ·refine ap (by simpa using e) ?_
        exact wpS_pure (.inl (.mk hs (eA gf e)))
       refine ao (by simpa using e) ?_
       split
       ·exact wpS_pure (.inr (.mk ⟨hs,gf,by lia,b2,by lia⟩))
       ·exact wpS_pure (.mk ⟨hs,gf,by lia,b2,by lia⟩)
      have tail:∀ m,ib+1+k<=m->m < b.size->K a ia<=K b m:=fun m c1 c2=>by
       have:=k3 (m - (ib+1)) (by lia) (by lia)
       rwa [Nat.add_sub_cancel' (by lia)] at this
      by_cases mV:k>0
      ·refine ap mV ?_
       have gf:=(fw.swap.app sb (k:=k) (by lia) fun m c1 c2 m' c3 c4=>by
        have:=k2 (m - (ib+1)) (by lia)
        rw [Nat.add_sub_cancel' (by lia)] at this
        exact Int.le_trans (Int.le_of_lt this) (sa _ _ c3 c4)).swap
       refine (?_:wpS _ _ _ _ (ite ((ib+1+k==b.size)=true) _ _) _ _)
       by_cases e:ib+1+k=b.size
       ·refine ap (by simpa using e) ?_
        exact wpS_pure (.inl (.mk hs (eB gf e)))
       ·refine ao (by simpa using e) ?_
        exact rh _ _ gf (by lia) (by lia) tail
      ·refine ao mV ?_
       have:k=0:=by lia
       subst this
       exact rh _ _ fw (by lia) (by lia) tail
     have tail:∀ m,ia+k<=m->m < a.size->K b ib<=K a m:=fun m c1 c2=>by
      have:=k3 (m - ia) (by lia) (by lia)
      rw [Nat.add_sub_cancel' (by lia)] at this
      exact Int.le_of_lt this
     by_cases mV:k>0
     ·refine ap mV ?_
      have gf:=hm.app sa (k:=k) (by lia) fun m c1 c2 m' c3 c4=>by
       have:=k2 (m - ia) (by lia)
       rw [Nat.add_sub_cancel' (by lia)] at this
       exact Int.le_trans this (sb _ _ c3 c4)
      refine (?_:wpS _ _ _ _ (ite ((ia+k+1==a.size)=true) _ (ite ((ia+k==a.size)=true) _ _)) _ _)
      by_cases e:ia+k+1=a.size
      ·refine ap (by simpa using e) ?_
       exact wpS_pure (.inl (.mk hs (eA gf e)))
      refine ao (by simpa using e) ?_
      by_cases e':ia+k=a.size
      ·refine ap (by simpa using e') ?_
       exact wpS_pure (.inl (.mk hs (gf.end sa sb fun m c1 c2=>by lia)))
      ·refine ao (by simpa using e') ?_
       exact kX _ _ gf (by lia) (by lia) tail
     ·refine ao mV ?_
      have:k=0:=by lia
      subst this
      exact kX _ _ hm b1 b3 tail
    split
    ·exact wpS_mono (key _) fun r af h=>by cases r<;>exact h
    ·exact wpS_mono (key _) fun r af h=>by cases r<;>exact h
end
end
structure MH (W:List Keyed) (a b out:Array Keyed) (na nb:Nat):Prop where
 perm:(out.toList++((a.extract 0 na).toList++(b.extract 0 nb).toList)).Perm W
 so:out.toList.Pairwise fun p q=>nu q<=nu p
 lA:∀ p∈out.toList,∀ m,m < na->m < a.size->K a m<=nu p
 lB:∀ p∈out.toList,∀ m,m < nb->m < b.size->K b m<=nu p
section
variable {W:List Keyed}{a b out:Array Keyed}{na nb:Nat}
theorem MH.swap (h:MH W a b out na nb):MH W b a out nb na:=⟨(List.perm_append_comm.append_left _).trans h.perm,h.so,h.lB,h.lA⟩
theorem MH.app (h:MH W a b out na nb) (sa:SortedTo a a.size) {k:Nat}(hk:k<=na) (hx:∀ m,k<=m->m < na->m < a.size->∀ m',m' < nb->m' < b.size->K b m'<=K a m):MH W a b (out++(a.extract k na).reverse) k nb:=by
 refine ⟨?_,?_,?_,?_⟩
 ·have z:=h.perm
  rw [fk a (Nat.zero_le k) hk] at z
  rw [Array.toList_append,Array.toList_reverse,List.append_assoc]
  refine List.Perm.trans (List.Perm.append_left _ ?_) z
  exact ((List.reverse_perm _).append_right _).trans (by rw [<- List.append_assoc];exact List.perm_append_comm.append_right _)
 ·rw [Array.toList_append,List.pairwise_append]
  refine ⟨h.so,?_,fun p hp q hq=>?_⟩
  ·rw [Array.toList_reverse,List.pairwise_reverse]
   exact d7 sa _ _
  ·rw [Array.toList_reverse,List.mem_reverse] at hq
   obtain ⟨m,m1,m2,m3,e⟩:=cw hq
   rw [e]
   exact h.lA p hp m m2 m3
 ·intro p hp m h1 h2
  rw [Array.toList_append,List.mem_append,Array.toList_reverse,List.mem_reverse] at hp
  rcases hp with hp | hp
  ·exact h.lA p hp m (by lia) h2
  ·obtain ⟨m',m1,m2,m3,e⟩:=cw hp
   rw [e]
   exact sa _ _ (by lia) m3
 ·intro p hp m h1 h2
  rw [Array.toList_append,List.mem_append,Array.toList_reverse,List.mem_reverse] at hp
  rcases hp with hp | hp
  ·exact h.lB p hp m h1 h2
  ·obtain ⟨m',m1,m2,m3,e⟩:=cw hp
   rw [e]
   exact hx _ m1 m2 m3 _ h1 h2
theorem MH.push (h:MH W a b out na nb) (sa:SortedTo a a.size) (h1:1<=na) (hk:na - 1 < a.size) (hx:∀ m',m' < nb->m' < b.size->K b m'<=K a (na - 1)):MH W a b (out.push a[na - 1]) (na - 1) nb:=by
 have e:out.push a[na - 1]=out++(a.extract (na - 1) na).reverse:=by
  rw [nV hk,Nat.sub_add_cancel h1]
  congr 1
  apply Array.toList_inj.mp
  have:(a.extract (na - 1) na).toList=[a[na - 1]]:=by
   rw [Array.toList_extract,List.extract_eq_take_drop,List.drop_eq_getElem_cons (by simpa using hk),show na - (na - 1)=1 by lia]
   rfl
  rw [Array.toList_reverse,this]
  rfl
 rw [e]
 refine h.app sa (Nat.sub_le ..) fun m c1 c2=>?_
 have:m=na - 1:=by lia
 exact fun _=>this▸hx
theorem MH.end (h:MH W a b out na nb) (sa:SortedTo a a.size) (sb:SortedTo b b.size) (hc:∀ m,m < na->m < a.size->∀ m',m' < nb->m' < b.size->K a m<=K b m'):iE W (a.extract 0 na++b.extract 0 nb++out.reverse):=by
 refine ⟨?_,?_⟩
 ·rw [Array.toList_append,Array.toList_append,Array.toList_reverse]
  exact (List.perm_append_comm.trans ((List.reverse_perm _).append_right _)).trans h.perm
 rw [Array.toList_append,Array.toList_append,Array.toList_reverse,List.pairwise_append,List.pairwise_append,List.pairwise_reverse]
 refine ⟨⟨d7 sa _ _,d7 sb _ _,fun p hp q hq=>?_⟩,h.so,fun p hp q hq=>?_⟩
 ·obtain ⟨m,m1,m2,m3,e⟩:=cw hp
  obtain ⟨m',n1,n2,n3,e'⟩:=cw hq
  show nu p<=nu q
  rw [e,e']
  exact hc m m2 m3 m' n2 n3
 ·show nu p<=nu q
  rw [List.mem_reverse] at hq
  rcases List.mem_append.mp hp with hp | hp
  ·obtain ⟨m,m1,m2,m3,e⟩:=cw hp
   rw [e];exact h.lA q hq m m2 m3
  ·obtain ⟨m,m1,m2,m3,e⟩:=cw hp
   rw [e];exact h.lB q hq m m2 m3
end
noncomputable abbrev Fi:=Nat×Nat×Array Keyed×Nat×Nat×Nat
structure Fj (W:List Keyed) (a b:Array Keyed) (x:Nat) (st af:SortSt) (na nb:Nat) (out:Array Keyed):Prop where
 s:SG st af
 m:MH W a b out na nb
 b1:1<=na
 b2:2<=nb
 b3:na<=a.size
 b4:nb<=b.size
 b5:x+na+nb < a.size+b.size
inductive H4 (W:List Keyed) (a b:Array Keyed) (x:Nat) (st af:SortSt):Option (Array Keyed)×Nat×Nat×Array Keyed×Nat->Prop
 | mk {na nb out g}:Fj W a b x st af na nb out->H4 W a b x st af (none,na,nb,out,g)
inductive Fk (W:List Keyed) (a b:Array Keyed) (x:Nat) (st af:SortSt):Option (Array Keyed)×Nat×Nat×Array Keyed×Nat×Nat->Prop
 | mk {na nb out u v}:Fj W a b x st af na nb out->Fk W a b x st af (none,na,nb,out,u,v)
inductive Cs (W:List Keyed) (a b:Array Keyed) (x:Nat) (st:SortSt):Option (Array Keyed)×Fi->SortSt->Prop
 | mk {na nb out g u v af}:Fj W a b (x+1) st af na nb out->Cs W a b x st (none,na,nb,out,g,u,v) af
noncomputable def H5 (W:List Keyed) (a b:Array Keyed) (x:Nat) (st:SortSt) (c:Option (Array Keyed)×Fi) (af:SortSt):Prop:=s0 W st af c∨Cs W a b x st c af
noncomputable abbrev Fl (W:List Keyed) (a b:Array Keyed) (x:Nat) (st:SortSt) (r:ForInStep (Option (Array Keyed)×Fi)) (af:SortSt):Prop:=match r with
 | .done c=>H5 W a b x st c af
 | .yield c=>Cs W a b x st c af
section
variable {prog:Program}{w:World}{A:Around}{E:Value->Shared->Prop}{s:Shared}{st:SortSt}
theorem zL {a b:Array Keyed}(hk:kindOf st=oneType') (iA:∀ i (h:i < a.size),gE a[i]) (iB:∀ i (h:i < b.size),gE b[i]) (sa:SortedTo a a.size) (sb:SortedTo b b.size) (ha:0 < a.size) (hb:0 < b.size)
  (h1:∀ m,m < a.size->K b 0<=K a m) (h2:∀ m,m < b.size->K b m<=K a (a.size - 1)) {Q:Array Keyed->SortSt->Prop}(h:∀ r af,SG st af->iE (a.toList++b.toList) r->Q r af):wpS (model prog w) A E s (JV a b) Q st:=by
 have I0:MH (a.toList++b.toList) a b (#[].push (a[a.size - 1]'(by lia))) (a.size - 1) b.size:=by
  have z:MH (a.toList++b.toList) a b #[] a.size b.size:=⟨by simp,List.Pairwise.nil,fun p hp=>(nomatch hp),fun p hp=>(nomatch hp)⟩
  exact z.push sa ha (by lia) fun m hm _=>h2 m hm
 -- the two ends
 have eA:∀ {out na nb},MH (a.toList++b.toList) a b out na nb->na=0->iE (a.toList++b.toList) (a.extract 0 na++b.extract 0 nb++out.reverse):=fun hm e=>hm.end sa sb fun m x=>by lia
 have eB:∀ {out na nb},MH (a.toList++b.toList) a b out na nb->nb=1->iE (a.toList++b.toList) (b.extract 0 nb++a.extract 0 na++out.reverse):=fun hm e=>hm.swap.end sb sa fun m x _ m' y y'=>by
  have:m=0:=by lia
  subst this
  exact h1 m' y'
 refine wpS_bind (wpS_lift (wpAny_rule ⟨rfl,?_⟩))
 refine wpS_bind (aU (i:=a.size - 1) (by lia) ?_)
 by_cases e1:a.size - 1=0
 ·refine (?_:wpS _ _ _ _ (ite ((a.size - 1==0)=true) _ _) _ _)
  refine ap (by simpa using e1) ?_
  exact wpS_pure (h _ _ ⟨rfl,rfl,rfl,rfl⟩ (eA I0 e1))
 refine (?_:wpS _ _ _ _ (ite ((a.size - 1==0)=true) _ _) _ _)
 refine ao (by simpa using e1) ?_
 by_cases e2:b.size=1
 ·refine ap (by simpa using e2) ?_
  exact wpS_pure (h _ _ ⟨rfl,rfl,rfl,rfl⟩ (eB I0 e2))
 refine ao (by simpa using e2) ?_
 refine wpS_bind (wpS_get ?_)
 refine wpS_bind (wpS_mono (wpS_forRange (I:=fun x c af=>H4 (a.toList++b.toList) a b x st af c) (Q:=fun c af=>s0 (a.toList++b.toList) st af c) ?step ?fin ?init) ?post)
 case init=>exact .mk ⟨⟨rfl,rfl,rfl,rfl⟩,I0,by lia,by lia,by lia,by lia,by lia⟩
 case fin=>
  rintro c af @⟨_,_,_,_,⟨_,_,_,_,_,_,_⟩⟩
  lia
 case post=>
  rintro c af ⟨hs,hr⟩
  exact wpS_pure (h _ af hs hr)
 case step=>
  rintro x c JW _ hx @⟨na,nb,out,g,I⟩
  refine wpS_bind (wpS_mono (wpS_forRange (I:=fun y c af=>Fk (a.toList++b.toList) a b (x+y) st af c) (Q:=fun c af=>s0 (a.toList++b.toList) st af c∨Fk (a.toList++b.toList) a b (x+1) st af c) ?step1 ?fin1 ?init1) ?post1)
  case init1=>exact .mk I
  case fin1=>
   rintro c af @⟨_,_,_,_,_,⟨hs,hm,b1,b2,b3,b4,b5⟩⟩
   exact .inr (.mk ⟨hs,hm,b1,b2,b3,b4,by lia⟩)
  case step1=>
   rintro y c dH _ hy @⟨na,nb,out,u,v,⟨hs,hm,b1,b2,b3,b4,b5⟩⟩
   refine wpS_bind (aU (i:=nb - 1) (by lia) (wpS_bind (aU (i:=na - 1) (by lia) (wpS_bind (jS (iB _ _) (iA _ _) (hs.k.trans hk) ?_)))))
   rw [<- cE,<- cE]
   by_cases q:K b (nb - 1) < K a (na - 1)
   ·rw [decide_eq_true q]
    refine wpS_bind (aU (i:=na - 1) (by lia) ?_)
    have fw:=hm.push sa b1 (by lia) fun m' c1 c2=>Int.le_trans (sb _ _ (by lia) (by lia)) (Int.le_of_lt q)
    refine (?_:wpS _ _ _ _ (ite ((na - 1==0)=true) _ _) _ _)
    by_cases e:na - 1=0
    ·refine ap (by simpa using e) ?_
     exact wpS_pure (.inl (.mk hs (eA fw e)))
    ·refine ao (by simpa using e) ?_
     by_cases z:u+1≥g
     ·refine ap z ?_
      exact wpS_pure (.inr (.mk ⟨hs,fw,by lia,b2,by lia,b4,by lia⟩))
     ·refine ao z ?_
      exact wpS_pure (.mk ⟨hs,fw,by lia,b2,by lia,b4,by lia⟩)
   ·rw [decide_eq_false q]
    refine wpS_bind (aU (i:=nb - 1) (by lia) ?_)
    have fw:=(hm.swap.push sb (by lia) (by lia) fun m' c1 c2=>Int.le_trans (sa _ _ (by lia) (by lia)) (Int.not_lt.mp q)).swap
    refine (?_:wpS _ _ _ _ (ite ((nb - 1==1)=true) _ _) _ _)
    by_cases e:nb - 1=1
    ·refine ap (by simpa using e) ?_
     exact wpS_pure (.inl (.mk hs (eB fw e)))
    ·refine ao (by simpa using e) ?_
     by_cases z:v+1≥g
     ·refine ap z ?_
      exact wpS_pure (.inr (.mk ⟨hs,fw,b1,by lia,b3,by lia,by lia⟩))
     ·refine ao z ?_
      exact wpS_pure (.mk ⟨hs,fw,b1,by lia,b3,by lia,by lia⟩)
  case post1=>
   rintro c dH (⟨hs,hr⟩ | @⟨na,nb,out,u,v,I2⟩)
   ·exact wpS_pure (.mk hs hr)
   refine wpS_bind (wpS_lift (wpAny_rule ⟨rfl,?_⟩))
   refine wpS_bind (wpS_mono (wpS_forRange (I:=fun _=>Cs (a.toList++b.toList) a b x st) (Q:=H5 (a.toList++b.toList) a b x st) ?step2 ?fin2 ?init2) ?post2)
   case init2=>exact .mk I2
   case fin2=>exact fun c af h=>.inr h
   case post2=>
    rintro c du (⟨hs,hr⟩ | @⟨na,nb,out,g,u,v,_,I3⟩)
    ·exact wpS_pure (.mk hs hr)
    ·exact wpS_bind (iQ I3.s fun af hs=>wpS_pure (.mk ⟨hs,I3.m,I3.b1,I3.b2,I3.b3,I3.b4,I3.b5⟩))
   case step2=>
    rintro y c du _ hy @⟨na,nb,out,g,u,v,_,⟨hs,hm,b1,b2,b3,b4,b5⟩⟩
    extract_lets _ _ _ _ _ _ _ _ _ _ _ _ jp
    have key:∀ mg,wpS (model prog w) A E s (jp () mg) (Fl (a.toList++b.toList) a b x st) du:=by
     intro mg
     refine wpS_bind (iQ hs fun jy hs=>?_)
     refine wpS_bind (aU (i:=nb - 1) (by lia) (wpS_bind (gF (base:=0) (n:=na) (hs.k.trans hk) (iB _ _) (by lia) iA (by lia) (jT _ _ sa (by lia)) fun k k1 k2 k3=>?_)))
     rw [<- cE] at k2 k3
     simp only [rg.1,Nat.zero_add] at k2
     simp only [rg.2,Nat.zero_add] at k3
     dsimp -zeta only
     extract_lets _ _ jp2
     have kX:∀ na out,MH (a.toList++b.toList) a b out na nb->1<=na->na<=a.size->x+1+na+nb < a.size+b.size->(∀ m,m < na->K a m<=K b (nb - 1))->wpS (model prog w) A E s (jp2 () na out) (Fl (a.toList++b.toList) a b x st) jy:=by
      intro na out hm b1 b3 b5 oP
      refine wpS_bind (aU (i:=nb - 1) (by lia) ?_)
      have fw:=(hm.swap.push sb (by lia) (by lia) fun m c1 _=>oP m c1).swap
      refine (?_:wpS _ _ _ _ (ite ((nb - 1==1)=true) _ _) _ _)
      by_cases e:nb - 1=1
      ·refine ap (by simpa using e) ?_
       exact wpS_pure (.inl (.mk hs (eB fw e)))
      refine ao (by simpa using e) ?_
      refine wpS_bind (aU (i:=na - 1) (by lia) (wpS_bind (gF (base:=0) (n:=nb - 1) (hs.k.trans hk) (iA _ _) (by lia) iB (by lia) (jT _ _ sb (by lia)) fun k k1 k2 k3=>?_)))
      rw [<- cE] at k2 k3
      simp only [re.1,Nat.zero_add] at k2
      simp only [re.2,Nat.zero_add] at k3
      dsimp -zeta only
      extract_lets _ _ _ jp3
      have rh:∀ nb out,MH (a.toList++b.toList) a b out na nb->2<=nb->nb<=b.size->x+1+na+nb < a.size+b.size->(∀ m,m < nb->K b m<=K a (na - 1))->wpS (model prog w) A E s (jp3 () nb out) (Fl (a.toList++b.toList) a b x st) jy:=by
       intro nb out hm b2 b4 b5 oP
       refine wpS_bind (aU (i:=na - 1) (by lia) ?_)
       have gf:=hm.push sa b1 (by lia) fun m c1 _=>oP m c1
       refine (?_:wpS _ _ _ _ (ite ((na - 1==0)=true) _ _) _ _)
       by_cases e:na - 1=0
       ·refine ap (by simpa using e) ?_
        exact wpS_pure (.inl (.mk hs (eA gf e)))
       refine ao (by simpa using e) ?_
       split
       ·exact wpS_pure (.inr (.mk ⟨hs,gf,by lia,b2,by lia,b4,by lia⟩))
       ·exact wpS_pure (.mk ⟨hs,gf,by lia,b2,by lia,b4,by lia⟩)
      by_cases mV:nb - 1 - k>0
      ·refine ap mV ?_
       have gf:=(fw.swap.app sb (k:=k) (by lia) fun m c1 c2 _ m' c3 c4=>Int.le_trans (sa _ _ (by lia) (by lia)) (k3 m c1 c2)).swap
       refine (?_:wpS _ _ _ _ (ite ((k==1)=true) _ (ite ((k==0)=true) _ _)) _ _)
       by_cases e:k=1
       ·refine ap (by simpa using e) ?_
        exact wpS_pure (.inl (.mk hs (eB gf e)))
       refine ao (by simpa using e) ?_
       by_cases e':k=0
       ·refine ap (by simpa using e') ?_
        exact wpS_pure (.inl (.mk hs (gf.end sa sb fun m c1 _ m' c2=>by lia)))
       ·refine ao (by simpa using e') ?_
        exact rh _ _ gf (by lia) (by lia) (by lia) fun m c1=>Int.le_of_lt (k2 m c1)
      ·refine ao mV ?_
       exact rh _ _ fw (by lia) (by lia) (by lia) fun m c1=>Int.le_of_lt (k2 m (by lia))
     by_cases mV:na - k>0
     ·refine ap mV ?_
      have gf:=hm.app sa (k:=k) (by lia) fun m c1 c2 _ m' c3 c4=>Int.le_trans (sb _ _ (by lia) (by lia)) (Int.le_of_lt (k3 m c1 c2))
      refine (?_:wpS _ _ _ _ (ite ((k==0)=true) _ _) _ _)
      by_cases e:k=0
      ·refine ap (by simpa using e) ?_
       exact wpS_pure (.inl (.mk hs (eA gf e)))
      ·refine ao (by simpa using e) ?_
       exact kX _ _ gf (by lia) (by lia) (by lia) k2
     ·refine ao mV ?_
      exact kX _ _ hm b1 (by lia) (by lia) fun m c1=>k2 m (by lia)
    split
    ·exact wpS_mono (key _) fun r af h=>by cases r<;>exact h
    ·exact wpS_mono (key _) fun r af h=>by cases r<;>exact h
end
noncomputable def JX:Nat->Nat->StateT SortSt Sem (Option Nat):=sortPriv% PySem.Builtin.countRun
noncomputable def JY:Nat->Nat->Nat->StateT SortSt Sem Bool:=sortPriv% PySem.Builtin.binarySort
structure SL (a₀:Array Keyed) (lo:Nat) (F:Nat->Int) (pd:Array (Nat×Nat×Nat)) (st:SortSt):Prop where
 perm:(PyProof.Rows.arrOf st).Perm a₀
 kind:kindOf st=oneType'
 failed:failedOf st=none
 pend:pendingOf st=pd
 pre:∀ i,i < lo->K (PyProof.Rows.arrOf st) i=F i
noncomputable def cy (xs:Array Keyed) (i j:Nat):Prop:=∀ p q,i<=p->p<=q->q < j->K xs p<=K xs q
noncomputable def gG (xs:Array Keyed) (i j:Nat):Prop:=∀ p q,i<=p->p<=q->q < j->K xs q<=K xs p
section
variable {a₀:Array Keyed}{lo:Nat}{F:Nat->Int}{pd:Array (Nat×Nat×Nat)}{st:SortSt}
theorem SL.size (h:SL a₀ lo F pd st):(PyProof.Rows.arrOf st).size=a₀.size:=h.perm.size_eq
theorem SL.set (h:SL a₀ lo F pd st) {xs:Array Keyed}(hp:xs.Perm (PyProof.Rows.arrOf st)) (hk:∀ i,i < lo->K xs i=K (PyProof.Rows.arrOf st) i):SL a₀ lo F pd (PyProof.Rows.setArr st xs):=
 ⟨hp.trans h.perm,h.kind,h.failed,h.pend,fun i hi=>(hk i hi).trans (h.pre i hi)⟩
theorem SL.mir (h:SL a₀ lo F pd st) {i j:Nat}(hi:lo<=i) (hj:j<=a₀.size):SL a₀ lo F pd (PyProof.Rows.setArr st (mirror (PyProof.Rows.arrOf st) i j ((j - i) / 2))):=
 h.set (mirror_perm _ _ _ _) fun k hk=>by rw [K_mirror (by rw [h.size];exact hj),if_neg (by lia)]
theorem cy.one {xs:Array Keyed}{i:Nat}:cy xs i (i+1):=fun p q h1 h2 h3=>by
 have:p=q:=by lia
 subst this;exact Int.le_refl _
theorem cy.snoc {xs:Array Keyed}{i j:Nat}(h:cy xs i j) (BG:i < j) (hl:K xs (j - 1)<=K xs j):cy xs i (j+1):=fun p q h1 h2 h3=>by
 by_cases hq:q < j
 ·exact h p q h1 h2 hq
 ·have:q=j:=by lia
  subst this
  by_cases e:p=q
  ·subst e;exact Int.le_refl _
  ·exact Int.le_trans (h p (q - 1) h1 (by lia) (by lia)) hl
theorem gG.snoc {xs:Array Keyed}{i j:Nat}(h:gG xs i j) (BG:i < j) (hl:K xs j<=K xs (j - 1)):gG xs i (j+1):=fun p q h1 h2 h3=>by
 by_cases hq:q < j
 ·exact h p q h1 h2 hq
 ·have:q=j:=by lia
  subst this
  by_cases e:p=q
  ·subst e;exact Int.le_refl _
  ·exact Int.le_trans hl (h p (q - 1) h1 (by lia) (by lia))
theorem gG.congr {xs ys:Array Keyed}{i j:Nat}(h:gG xs i j) (hk:∀ k,K ys k=K xs k):gG ys i j:=fun p q h1 h2 h3=>by rw [hk,hk];exact h p q h1 h2 h3
end
section
variable {prog:Program}{w:World}{A:Around}{E:Value->Shared->Prop}{s:Shared}{a₀:Array Keyed}{lo:Nat}{F:Nat->Int}{pd:Array (Nat×Nat×Nat)}{st:SortSt}
theorem iF (h0:∀ i (h:i < a₀.size),gE a₀[i]) (hB:SL a₀ lo F pd st) {i j:Nat}(hi:i < a₀.size) (hj:j < a₀.size) {Q:Option Bool->SortSt->Prop}(h:Q (some (decide (K (PyProof.Rows.arrOf st) i < K (PyProof.Rows.arrOf st) j))) st):
  wpS (model prog w) A E s (ltAt' i j) Q st:=by
 have eP:i < (PyProof.Rows.arrOf st).size:=by rw [hB.size];exact hi
 have og:j < (PyProof.Rows.arrOf st).size:=by rw [hB.size];exact hj
 have mem:∀ k (hk:k < (PyProof.Rows.arrOf st).size),gE (PyProof.Rows.arrOf st)[k]:=fun k hk=>by
  have hm:(PyProof.Rows.arrOf st)[k]∈a₀.toList:=(Array.perm_iff_toList_perm.mp hB.perm).mem_iff.mp (by simp)
  obtain ⟨m,vC,e⟩:=List.getElem_of_mem hm
  rw [<- e]
  exact h0 m (by simpa using vC)
 rw [ltAt'_eq]
 refine wpS_bind (wpS_get (wpS_bind (aU eP (wpS_bind (aU og (jS (mem _ _) (mem _ _) hB.kind ?_))))))
 rw [<- cE,<- cE]
 exact h
theorem jU {i j:Nat}{Q:Unit->SortSt->Prop}(h:Q () (PyProof.Rows.setArr st (mirror (PyProof.Rows.arrOf st) i j ((j - i) / 2)))):wpS (model prog w) A E s (reverseSlice' i j) Q st:=wpS_modify h
noncomputable def H6 (lo : Nat) : Nat -> Option (Option Nat) × Nat -> StateT SortSt Sem (ForInStep (Option (Option Nat) × Nat)) := fun _ c => do
  let x <- ltAt' (lo + c.2) (lo + c.2 - 1)
  match x with
  | some b => if b = true then pure (.done (none, c.2)) else pure (.yield (none, c.2 + 1))
  | _ => pure (.done (some none, c.2))
theorem ri {a nrem:Nat}{Q:Option (Option Nat)×Nat->SortSt->Prop}(h0:∀ i (h:i < a₀.size),gE a₀[i]) (hn:lo+nrem<=a₀.size) (h1:1<=a) (ha:a<=nrem) (hB:SL a₀ lo F pd st) (hs:cy (PyProof.Rows.arrOf st) lo (lo+a))
  (h:∀ n,a<=n->n<=nrem->cy (PyProof.Rows.arrOf st) lo (lo+n)->(n=nrem∨K (PyProof.Rows.arrOf st) (lo+n) < K (PyProof.Rows.arrOf st) (lo+n - 1))->Q (none,n) st):wpS (model prog w) A E s (forIn [a:nrem] (none,a) (H6 lo)) Q st:=by
 refine wpS_forRange (I:=fun x c af=>af=st/\c=(none,x)/\a<=x/\cy (PyProof.Rows.arrOf st) lo (lo+x)) ?_ ?_ ⟨rfl,rfl,Nat.le_refl _,hs⟩
 ·rintro x c af _ hx ⟨rfl,rfl,g1,g2⟩
  refine wpS_bind (iF h0 hB (by lia) (by lia) ?_)
  by_cases q:K (PyProof.Rows.arrOf af) (lo+x) < K (PyProof.Rows.arrOf af) (lo+x - 1)
  ·rw [decide_eq_true q]
   exact wpS_pure (h x g1 (by lia) g2 (.inr q))
  ·rw [decide_eq_false q]
   exact wpS_pure ⟨rfl,rfl,by lia,g2.snoc (by lia) (Int.not_lt.mp q)⟩
 ·rintro c af ⟨rfl,rfl,g1,g2⟩
  rw [show max a nrem=nrem by lia] at *
  exact h nrem ha (Nat.le_refl _) g2 (.inl rfl)
theorem rj {nrem:Nat}{Q:Option Nat->SortSt->Prop}(h0:∀ i (h:i < a₀.size),gE a₀[i]) (hn:lo+nrem<=a₀.size) (h1:1<=nrem) (hB:SL a₀ lo F pd st)
  (h:∀ m af,SL a₀ lo F pd af->1<=m->m<=nrem->cy (PyProof.Rows.arrOf af) lo (lo+m)->Q (some m) af):wpS (model prog w) A E s (JX lo nrem) Q st:=by
 refine wpS_bind (ri h0 hn (Nat.le_refl 1) h1 hB cy.one fun n g1 g2 g3 g4=>?_)
 dsimp -zeta only
 extract_lets _ _ _ _ jp
 have key:∀ af,SL a₀ lo F pd af->n+1<=nrem->gG (PyProof.Rows.arrOf af) lo (lo+(n+1))->wpS (model prog w) A E s (jp ()) Q af:=by
  intro af hB oP hs
  refine wpS_bind (wpS_lift (wpAny_rule ⟨rfl,?_⟩))
  refine wpS_bind (wpS_mono (wpS_forRange (I:=fun x c dH=>SL a₀ lo F pd dH/\∃ iG,c=(none,x,iG)/\gG (PyProof.Rows.arrOf dH) lo (lo+x)/\iG+1<=x/\n+1<=x/\∀ i,lo+x - (iG+1)<=i->i < lo+x->K (PyProof.Rows.arrOf dH) i=K (PyProof.Rows.arrOf dH) (lo+x - 1))
   (Q:=fun c dH=>SL a₀ lo F pd dH/\∃ x iG,c=(none,x,iG)/\x<=nrem/\gG (PyProof.Rows.arrOf dH) lo (lo+x)/\iG+1<=x/\n+1<=x/\∀ i,lo+x - (iG+1)<=i->i < lo+x->K (PyProof.Rows.arrOf dH) i=K (PyProof.Rows.arrOf dH) (lo+x - 1)) ?step ?fin ?init) ?post)
  case init=>exact ⟨hB,0,rfl,hs,by lia,by lia,fun i c1 c2=>by congr 1;lia⟩
  case fin=>
   rintro c dH ⟨hB,iG,rfl,hs,c1,c2,c3⟩
   rw [show max (n+1) nrem=nrem by lia] at *
   exact ⟨hB,nrem,iG,rfl,Nat.le_refl _,hs,c1,c2,c3⟩
  case step=>
   rintro x c dH _ hx ⟨hB,iG,rfl,hs,c1,c2,c3⟩
   have ax:=hB.size
   refine wpS_bind (iF h0 hB (by lia) (by lia) ?_)
   by_cases q:K (PyProof.Rows.arrOf dH) (lo+x) < K (PyProof.Rows.arrOf dH) (lo+x - 1)
   ·rw [decide_eq_true q]
    have k9:=hs.snoc (by lia) (Int.le_of_lt q)
    refine (?_:wpS _ _ _ _ (ite (iG>0) _ _) _ _)
    by_cases z:iG>0
    ·refine ap z ?_
     refine wpS_bind (jU (wpS_pure ⟨hB.mir (by lia) (by lia),0,rfl,k9.congr (K_mirror_equal (by lia) c3),by lia,by lia,fun i d1 d2=>by congr 1;lia⟩))
    ·refine ao z ?_
     exact wpS_pure ⟨hB,0,rfl,k9,by lia,by lia,fun i d1 d2=>by congr 1;lia⟩
   ·rw [decide_eq_false q]
    refine wpS_bind (iF h0 hB (by lia) (by lia) ?_)
    by_cases q2:K (PyProof.Rows.arrOf dH) (lo+x - 1) < K (PyProof.Rows.arrOf dH) (lo+x)
    ·rw [decide_eq_true q2]
     exact wpS_pure ⟨hB,x,iG,rfl,by lia,hs,c1,c2,c3⟩
    ·rw [decide_eq_false q2]
     have e:K (PyProof.Rows.arrOf dH) (lo+x)=K (PyProof.Rows.arrOf dH) (lo+x - 1):=by lia
     refine wpS_pure ⟨hB,iG+1,rfl,hs.snoc (by lia) (Int.le_of_eq e),by lia,by lia,fun i d1 d2=>?_⟩
     rw [show lo+(x+1) - 1=lo+x by lia]
     by_cases ei:i=lo+x
     ·rw [ei]
     ·rw [e];exact c3 i (by lia) (by lia)
  case post=>
   rintro c dH ⟨hB,x,iG,rfl,hx,hs,c1,c2,c3⟩
   have ax:=hB.size
   dsimp -zeta only
   extract_lets _ _ _ jp2
   have kX:∀ du,SL a₀ lo F pd du->gG (PyProof.Rows.arrOf du) lo (lo+x)->wpS (model prog w) A E s (jp2 ()) Q du:=by
    intro du hB hs
    have ax:=hB.size
    refine wpS_bind (jU ?_)
    have rk:=hB.mir (i:=lo) (j:=lo+x) (Nat.le_refl _) (by lia)
    refine wpS_bind (ri h0 hn (by lia) hx rk (fun p q d1 d2 d3=>?_) fun m d1 d2 d3 _=>wpS_pure (h m _ rk (by lia) d2 d3))
    show K (mirror _ _ _ _) p<=K (mirror _ _ _ _) q
    rw [K_mirror (by lia),K_mirror (by lia),if_pos (by lia),if_pos (by lia)]
    exact hs _ _ (by lia) (by lia) (by lia)
   refine (?_:wpS _ _ _ _ (ite (iG>0) _ _) _ _)
   by_cases z:iG>0
   ·refine ap z ?_
    exact wpS_bind (jU (kX _ (hB.mir (by lia) (by lia)) (hs.congr (K_mirror_equal (by lia) c3))))
   ·refine ao z ?_
    exact kX _ hB hs
 have ax:=hB.size
 refine (?_:wpS _ _ _ _ (ite ((n==nrem)=true) _ (ite (n>1) _ _)) _ _)
 by_cases e:n=nrem
 ·refine ap (by simpa using e) ?_
  exact wpS_pure (h n st hB g1 g2 g3)
 refine ao (by simpa using e) ?_
 have iR:=g4.resolve_left e
 by_cases z:n>1
 ·refine ap z ?_
  refine wpS_bind (iF h0 hB (by lia) (by lia) ?_)
  by_cases q:K (PyProof.Rows.arrOf st) lo < K (PyProof.Rows.arrOf st) (lo+n - 1)
  ·rw [decide_eq_true q]
   exact wpS_pure (h n st hB g1 g2 g3)
  ·rw [decide_eq_false q]
   have all:∀ k,lo<=k->k < lo+n->K (PyProof.Rows.arrOf st) k=K (PyProof.Rows.arrOf st) (lo+n - 1):=fun k d1 d2=>by
    have z1:=g3 lo k (Nat.le_refl _) d1 d2
    have z2:=g3 k (lo+n - 1) d1 (by lia) (by lia)
    lia
   refine wpS_bind (jU (key _ (hB.mir (Nat.le_refl _) (by lia)) (by lia) (gG.congr (xs:=PyProof.Rows.arrOf st) (gG.snoc (j:=lo+n) (fun p q d1 d2 d3=>?_) (by lia) (Int.le_of_lt iR)) (K_mirror_equal (by lia) all))))
   rw [all p d1 (by lia),all q (by lia) d3]
   exact Int.le_refl _
 ·refine ao z ?_
  have:n=1:=by lia
  subst this
  exact key _ hB (by lia) (gG.snoc (j:=lo+1) (fun p q d1 d2 d3=>by
   have:p=q:=by lia
   subst this;exact Int.le_refl _) (by lia) (Int.le_of_lt iR))
end
section
variable {prog:Program}{w:World}{A:Around}{E:Value->Shared->Prop}{s:Shared}{a₀:Array Keyed}{lo:Nat}{F:Nat->Int}{pd:Array (Nat×Nat×Nat)}{st:SortSt}
theorem rl {n ok:Nat}{Q:Bool->SortSt->Prop}(h0:∀ i (h:i < a₀.size),gE a₀[i]) (hn:lo+n<=a₀.size) (h1:1<=ok) (Kz:ok<=n) (hB:SL a₀ lo F pd st) (hs:cy (PyProof.Rows.arrOf st) lo (lo+ok))
  (h:∀ af,SL a₀ lo F pd af->cy (PyProof.Rows.arrOf af) lo (lo+n)->Q true af):wpS (model prog w) A E s (JY lo n ok) Q st:=by
 refine wpS_bind (wpS_mono (wpS_forRange (I:=fun k c af=>c=(none,())/\SL a₀ lo F pd af/\cy (PyProof.Rows.arrOf af) lo (lo+k)) (Q:=fun c af=>c=(none,())/\SL a₀ lo F pd af/\cy (PyProof.Rows.arrOf af) lo (lo+n)) ?step ?fin ?init) ?post)
 case init=>
  rw [show max ok 1=ok by lia]
  exact ⟨rfl,hB,hs⟩
 case fin=>
  rintro c af ⟨rfl,jV,ca⟩
  rw [show max (max ok 1) n=n by lia] at ca
  exact ⟨rfl,jV,ca⟩
 case post=>
  rintro c af ⟨rfl,jV,ca⟩
  exact wpS_pure (h af jV ca)
 case step=>
  rintro k c af KA hk ⟨rfl,jV,ca⟩
  have ax:=jV.size
  refine wpS_bind (wpS_mono (wpS_forRange (I:=fun x c dH=>G2 af (fun l r=>(l<=r/\r<=k/\r+x<=k+l)/\(∀ i,i < l->K (PyProof.Rows.arrOf af) (lo+i)<=K (PyProof.Rows.arrOf af) (lo+k))/\∀ i,r<=i->i < k->K (PyProof.Rows.arrOf af) (lo+k) < K (PyProof.Rows.arrOf af) (lo+i)) c dH)
   (Q:=fun c dH=>G2 af (fun l _=>l<=k/\(∀ i,i < l->K (PyProof.Rows.arrOf af) (lo+i)<=K (PyProof.Rows.arrOf af) (lo+k))/\∀ i,l<=i->i < k->K (PyProof.Rows.arrOf af) (lo+k) < K (PyProof.Rows.arrOf af) (lo+i)) c dH) ?step2 ?fin2 ?init2) ?post2)
  case init2=>exact .mk ⟨⟨Nat.zero_le _,Nat.le_refl _,Nat.le_refl _⟩,fun i d=>absurd d (Nat.not_lt_zero _),fun i d1 d2=>absurd d2 (Nat.not_lt.mpr d1)⟩
  case fin2=>
   rintro c dH @⟨l,r,g⟩
   have:l=r:=Nat.le_antisymm g.1.1 (by have:=g.1.2.2;rw [Nat.zero_max] at this;lia)
   subst this
   exact .mk ⟨g.1.2.1,g.2⟩
  case step2=>
   rintro x c dH _ hx @⟨l,r,g⟩
   refine (?_:wpS _ _ _ _ (ite (l≥r) _ _) _ _)
   by_cases z:l≥r
   ·refine ap z ?_
    have:l=r:=Nat.le_antisymm g.1.1 z
    subst this
    exact wpS_pure (.mk ⟨g.1.2.1,g.2⟩)
   ·refine ao z ?_
    have hm:l<=(l+r) / 2/\(l+r) / 2 < r:=by lia
    have d:=g.1.2
    generalize (l+r) / 2=mm at hm ⊢
    refine wpS_bind (iF h0 jV (by lia) (by lia) ?_)
    by_cases q:K (PyProof.Rows.arrOf af) (lo+k) < K (PyProof.Rows.arrOf af) (lo+mm)
    ·rw [decide_eq_true q]
     exact wpS_pure (.mk ⟨⟨hm.1,by lia,by lia⟩,g.2.1,fun i e1 e2=>Int.lt_of_lt_of_le q (ca _ _ (Nat.le_add_right ..) (Nat.add_le_add_left e1 lo) (Nat.add_lt_add_left e2 lo))⟩)
    ·rw [decide_eq_false q]
     exact wpS_pure (.mk ⟨⟨hm.2,d.1,by lia⟩,fun i e1=>Int.le_trans (ca _ _ (Nat.le_add_right ..) (Nat.add_le_add_left (Nat.le_of_lt_succ e1) lo) (by lia)) (Int.not_lt.mp q),g.2.2⟩)
  case post2=>
   rintro c dH @⟨l,r,g⟩
   have d1:=g.1
   have kb:∀ i,K (bubble (PyProof.Rows.arrOf af) (lo+k) (lo+k - (lo+l))) i=if i=lo+l then K (PyProof.Rows.arrOf af) (lo+k) else if lo+l < i/\i<=lo+k then K (PyProof.Rows.arrOf af) (i - 1) else K (PyProof.Rows.arrOf af) i:=fun i=>by
    rw [K_bubble (by lia) (by lia),show lo+k - (lo+k - (lo+l))=lo+l by lia]
   refine wpS_bind (wpS_modify (wpS_pure ⟨rfl,jV.set (bubble_perm _ _ _) fun i hi=>?_,?_⟩))
   ·exact (kb i).trans (by rw [if_neg (by lia),if_neg (by lia)])
   ·intro p q e1 e2 e3
    show K (bubble (PyProof.Rows.arrOf af) (lo+k) (lo+k - (lo+l))) p<=K (bubble (PyProof.Rows.arrOf af) (lo+k) (lo+k - (lo+l))) q
    rw [kb,kb]
    have H7:∀ i,lo<=i->i < lo+l->K (PyProof.Rows.arrOf af) i<=K (PyProof.Rows.arrOf af) (lo+k):=fun i f1 f2=>by
     have:=g.2.1 (i - lo) (by lia)
     rwa [Nat.add_sub_cancel' f1] at this
    have Fn:∀ i,lo+l<=i->i < lo+k->K (PyProof.Rows.arrOf af) (lo+k)<=K (PyProof.Rows.arrOf af) i:=fun i f1 f2=>by
     have:=g.2.2 (i - lo) (by lia) (by lia)
     rw [Nat.add_sub_cancel' (by lia)] at this
     exact Int.le_of_lt this
    by_cases c1:p=lo+l
    ·rw [if_pos c1]
     by_cases c2:q=lo+l
     ·rw [if_pos c2];exact Int.le_refl _
     ·rw [if_neg c2,if_pos (by lia)];exact Fn _ (by lia) (by lia)
    ·rw [if_neg c1]
     by_cases c2:q=lo+l
     ·rw [if_pos c2,if_neg (by lia)];exact H7 _ e1 (by lia)
     ·rw [if_neg c2]
      by_cases c3:lo+l < p
      ·rw [if_pos (by lia),if_pos (by lia)];exact ca _ _ (by lia) (by lia) (by lia)
      ·rw [if_neg (by lia)]
       by_cases c4:lo+l < q
       ·rw [if_pos (by lia)];exact ca _ _ (by lia) (by lia) (by lia)
       ·rw [if_neg (by lia)];exact ca _ _ (by lia) (by lia) (by lia)
end
noncomputable def H8:Nat->StateT SortSt Sem Bool:=sortPriv% PySem.Builtin.mergeAt
theorem rm {a:Array Keyed}{lo hi:Nat}(sa:cy a lo hi) {i k:Nat}(eP:lo<=i) (hk:k<=hi):(a.extract i k).toList.Pairwise Ri:=by
 rw [List.pairwise_iff_getElem]
 intro x y hx hy JT
 rw [Array.length_toList,Array.size_extract] at hx hy
 rw [Array.getElem_toList,Array.getElem_toList,Array.getElem_extract,Array.getElem_extract]
 show nu _<=nu _
 rw [<- cE (by lia),<- cE (by lia)]
 exact sa _ _ (by lia) (by lia) (by lia)
theorem kD {a:Array Keyed}{i k m:Nat}(h:m < (a.extract i k).size):K (a.extract i k) m=K a (i+m):=by
 rw [Array.size_extract] at h
 rw [cE (by rw [Array.size_extract];lia),cE (by lia),Array.getElem_extract]
theorem i9 {a:Array Keyed}{lo hi:Nat}(sa:cy a lo hi) {i k:Nat}(eP:lo<=i) (hk:k<=hi):SortedTo (a.extract i k) (a.extract i k).size:=fun p q h1 h2=>by
 rw [kD h2,kD (Nat.lt_of_le_of_lt h1 h2)]
 rw [Array.size_extract] at h2
 exact sa _ _ (by lia) (by lia) (by lia)
theorem nW (sa:Nat):∀ (ms:List Keyed) (i:Nat) (arr:Array Keyed),sa+i+ms.length<=arr.size->((ms.zipIdx i).foldl (fun a x=>a.setIfInBounds (sa+x.2) x.1) arr).toList=arr.toList.take (sa+i)++(ms++arr.toList.drop (sa+i+ms.length))
 | [],i,arr,_=>by simp
 | x::ms,i,arr,h=>by
  rw [List.length_cons] at h
  rw [List.zipIdx_cons,List.foldl_cons,nW sa ms (i+1) _ (by rw [Array.size_setIfInBounds];lia)]
  dsimp only
  rw [Array.toList_setIfInBounds,List.drop_set_of_lt (by lia)]
  have hl:sa+i < arr.toList.length:=by rw [Array.length_toList];lia
  have e1:(arr.toList.set (sa+i) x).take (sa+(i+1))=arr.toList.take (sa+i)++[x]:=by
   rw [<- Nat.add_assoc,List.take_succ,List.take_set_of_le (Nat.le_refl _),List.getElem?_set_self hl]
   rfl
  rw [e1,List.append_assoc,List.length_cons,show sa+(i+1)+ms.length=sa+i+(ms.length+1) by lia]
  rfl
theorem oW {a:Array Keyed}(h:a.toList.Pairwise Ri):SortedTo a a.size:=fun i j h1 h2=>by
 by_cases e:i=j
 ·subst e;exact Int.le_refl _
 ·rw [cE h2,cE (by lia)]
  exact List.pairwise_iff_getElem.mp h i j (by simpa using (by lia:i < a.size)) (by simpa using h2) (by lia)
theorem vP {a:Array Keyed}{n:Nat}(s1:cy a 0 n) (s2:cy a n a.size) (hc:∀ m m',m < n->n<=m'->m' < a.size->K a m<=K a m'):SortedTo a a.size:=fun i j h1 h2=>by
 by_cases hj:j < n
 ·exact s1 i j (Nat.zero_le _) h1 hj
 ·by_cases hi:i < n
  ·exact hc i j hi (by lia) h2
  ·exact s2 i j (by lia) h1 h2
theorem JZ {a r:Array Keyed}{k n1 m:Nat}(hk:k<=n1) (hm:n1+m<=a.size) (hn:n1 < a.size) (h1:1<=n1) (s1:cy a 0 n1) (s2:cy a n1 a.size) (k2:∀ i,i < k->K a i<=K a n1)
  (m3:∀ i,n1+m<=i->i < a.size->K a (n1 - 1)<=K a i) (hr:iE ((a.extract k n1).toList++(a.extract n1 (n1+m)).toList) r) {b:Array Keyed}(hb:b=r.toList.zipIdx.foldl (fun a x=>a.setIfInBounds (k+x.2) x.1) a):b.Perm a/\SortedTo b b.size:=by
 obtain ⟨r1,r2⟩:=hr
 have bZ:r.toList.length=n1 - k+m:=by rw [r1.length_eq,List.length_append,Array.length_toList,Array.length_toList,Array.size_extract,Array.size_extract];lia
 have e3:=nW k r.toList 0 a (by rw [bZ];lia)
 rw [bZ,Nat.add_zero,show k+(n1 - k+m)=n1+m by lia,<- hb] at e3
 have t1:a.toList.take k=(a.extract 0 k).toList:=by rw [Array.toList_extract,List.extract_eq_take_drop];simp
 have t2:a.toList.drop (n1+m)=(a.extract (n1+m) a.size).toList:=by rw [Array.toList_extract,List.extract_eq_take_drop,List.take_of_length_le (by simp)]
 rw [t1,t2] at e3
 clear t1 t2 bZ hb
 have ta:a.toList=(a.extract 0 k).toList++(((a.extract k n1).toList++(a.extract n1 (n1+m)).toList)++(a.extract (n1+m) a.size).toList):=by
  rw [<- fk a hk (Nat.le_add_right n1 m),<- fk a (Nat.le_trans hk (Nat.le_add_right n1 m)) hm,<- fk a (Nat.zero_le _) (Nat.le_trans hk (Nat.le_of_lt hn))]
  simp
 have P:b.Perm a:=by
  refine Array.perm_iff_toList_perm.mpr ?_
  rw [e3,ta]
  exact List.Perm.append_left _ (r1.append_right _)
 refine ⟨P,oW ?_⟩
 rw [e3,List.pairwise_append,List.pairwise_append]
 clear e3 ta P
 have KB:=Nat.le_trans hk (Nat.le_of_lt hn)
 have low:∀ p∈(a.extract 0 k).toList,∀ y,n1<=y->y < a.size->nu p<=K a y:=fun p hp y d1 d2=>by
  obtain ⟨x,x1,x2,x3,e⟩:=cw hp
  rw [e]
  exact Int.le_trans (k2 x x2) (s2 _ _ (Nat.le_refl _) d1 d2)
 have H9:∀ q∈(a.extract (n1+m) a.size).toList,∀ x,x < n1->K a x<=nu q:=fun q hq x d1=>by
  obtain ⟨y,y1,y2,y3,e⟩:=cw hq
  rw [e]
  exact Int.le_trans (s1 _ (n1 - 1) (Nat.zero_le _) (Nat.le_sub_one_of_lt d1) (Nat.sub_lt h1 Nat.one_pos)) (m3 y y1 y3)
 refine ⟨rm s1 (Nat.zero_le _) hk,⟨r2,rm s2 (Nat.le_add_right _ _) (Nat.le_refl _),fun p hp q hq=>?_⟩,fun p hp q hq=>?_⟩
 ·show nu p<=nu q
  rcases List.mem_append.mp (r1.mem_iff.mp hp) with hp | hp
  ·obtain ⟨x,x1,x2,x3,e⟩:=cw hp
   rw [e]
   exact H9 q hq x x2
  ·obtain ⟨x,x1,x2,x3,e⟩:=cw hp
   obtain ⟨y,y1,y2,y3,e'⟩:=cw hq
   rw [e,e']
   exact s2 _ _ x1 (Nat.le_trans (Nat.le_of_lt x2) y1) y3
 ·show nu p<=nu q
  rcases List.mem_append.mp hq with hq | hq
  ·rcases List.mem_append.mp (r1.mem_iff.mp hq) with hq | hq
   ·obtain ⟨x,x1,x2,x3,e⟩:=cw hp
    obtain ⟨y,y1,y2,y3,e'⟩:=cw hq
    rw [e,e']
    exact s1 _ _ (Nat.zero_le _) (Nat.le_trans (Nat.le_of_lt x2) y1) y2
   ·obtain ⟨y,y1,y2,y3,e'⟩:=cw hq
    rw [e']
    exact low p hp y y1 y3
  ·obtain ⟨y,y1,y2,y3,e'⟩:=cw hq
   rw [e']
   exact low p hp y (Nat.le_trans (Nat.le_add_right _ _) y1) y3
theorem jW {α:Type}(a b x:α):((#[a,b].setIfInBounds 0 x).eraseIdxIfInBounds (0+1)).size=1:=by simp [Array.eraseIdxIfInBounds]
theorem zM {M:Model}{A:Around}{E:Value->Shared->Prop}{s:Shared}{σ:Type}{st af:σ}{Q:PUnit->σ->Prop}(h:Q ⟨⟩ af):wpS M A E s (set af:StateT σ Sem PUnit) Q st:=by
 unfold wpS;rw [StateT.run_set];exact wpAny_pure ⟨rfl,h⟩
section
variable {prog:Program}{w:World}{A:Around}{E:Value->Shared->Prop}{s:Shared}{a₀:Array Keyed}{F:Nat->Int}{st:SortSt}
theorem zN {n1 n2 pw q:Nat}{Q:Bool->SortSt->Prop}(h0:∀ i (h:i < a₀.size),gE a₀[i]) (h1:1<=n1) (h2:1<=n2) (hn:n1+n2=a₀.size) (hB:SL a₀ 0 F #[(0,n1,pw),(n1,n2,q)] st) (s1:cy (PyProof.Rows.arrOf st) 0 n1) (s2:cy (PyProof.Rows.arrOf st) n1 a₀.size)
  (h:∀ af,(PyProof.Rows.arrOf af).Perm a₀->failedOf af=none->(pendingOf af).size=1->SortedTo (PyProof.Rows.arrOf af) a₀.size->Q true af):wpS (model prog w) A E s (H8 0) Q st:=by
 obtain ⟨κ,a,p,g,f⟩:=st
 have hp:p=#[(0,n1,pw),(n1,n2,q)]:=hB.pend
 have hk:κ=oneType':=hB.kind
 have hf:f=none:=hB.failed
 subst hp hk hf
 have ax:a.size=a₀.size:=hB.size
 have s1:cy a 0 n1:=s1
 have s2:cy a n1 a₀.size:=s2
 have oX:a.Perm a₀:=hB.perm
 have tr:(∀ m m',m < n1->n1<=m'->m' < a.size->K a m<=K a m')->SortedTo a a₀.size:=fun z=>by
  have y:=vP s1 (by rw [ax];exact s2) z
  rw [ax] at y
  exact y
 have iA:∀ k (hk:k < a.size),gE a[k]:=fun k hk=>by
  have hm:a[k]∈a₀.toList:=(Array.perm_iff_toList_perm.mp oX).mem_iff.mp (by simp)
  obtain ⟨m,vC,e⟩:=List.getElem_of_mem hm
  rw [<- e]
  exact h0 m (by simpa using vC)
 refine wpS_bind (wpS_get ?_)
 refine wpS_bind (zM ?_)
 refine wpS_bind (aU (arr:=a) (i:=n1) (by lia) ?_)
 refine wpS_bind (gF (arr:=a) (base:=0) (n:=n1) rfl (iA _ _) (by lia) iA h1 (fun i j d1 d2 d3=>?_) fun k k1 k2 k3=>?_)
 ·rw [rg.1] at d3 ⊢
  exact Int.le_trans (s1 _ _ (Nat.zero_le _) (by lia) (by lia)) d3
 rw [<- cE] at k2 k3
 simp only [rg.1,Nat.zero_add] at k2
 simp only [rg.2,Nat.zero_add] at k3
 refine (?_:wpS _ _ _ _ (ite ((n1 - k==0)=true) _ _) _ _)
 by_cases e:n1 - k=0
 ·refine ap (by simpa using e) ?_
  exact wpS_pure (h _ oX rfl (jW _ _ _) (tr fun m m' d1 d2 d3=>Int.le_trans (k2 m (by lia)) (s2 _ _ (Nat.le_refl _) d2 (by lia))))
 refine ao (by simpa using e) ?_
 refine wpS_bind (aU (arr:=a) (i:=0+k+(n1 - k) - 1) (by lia) ?_)
 refine wpS_bind (gF (arr:=a) (base:=n1) (n:=n2) rfl (iA _ _) (by lia) iA (by lia) (fun i j d1 d2 d3=>?_) fun m m1 m2 m3=>?_)
 ·rw [re.1] at d3 ⊢
  exact Int.lt_of_le_of_lt (s2 _ _ (by lia) (by lia) (by lia)) d3
 rw [<- cE,show 0+k+(n1 - k) - 1=n1 - 1 by lia] at m2 m3
 simp only [re.1] at m2
 simp only [re.2] at m3
 refine (?_:wpS _ _ _ _ (ite ((m==0)=true) _ _) _ _)
 by_cases e2:m=0
 ·refine ap (by simpa using e2) ?_
  refine wpS_pure (h _ oX rfl (jW _ _ _) (tr fun x y d1 d2 d3=>Int.le_trans (s1 _ (n1 - 1) (Nat.zero_le _) (by lia) (by lia)) ?_))
  have:=m3 (y - n1) (by lia) (by lia)
  rwa [Nat.add_sub_cancel' d2] at this
 refine ao (by simpa using e2) ?_
 -- the two parts that are merged
 have hx:(a.extract k n1).size=n1 - k:=by rw [Array.size_extract];lia
 have hy:(a.extract n1 (n1+m)).size=m:=by rw [Array.size_extract];lia
 have fin:∀ (r:Array Keyed) (af:SortSt),PyProof.Rows.arrOf af=a->failedOf af=none->(pendingOf af).size=1->iE ((a.extract k n1).toList++(a.extract n1 (n1+m)).toList) r->Q true (PyProof.Rows.setArr af (r.toList.zipIdx.foldl (fun a x=>a.setIfInBounds (k+x.2) x.1) (PyProof.Rows.arrOf af))):=by
  intro r af ow k9 ly hr
  obtain ⟨P,S⟩:=JZ (b:=r.toList.zipIdx.foldl (fun a x=>a.setIfInBounds (k+x.2) x.1) (PyProof.Rows.arrOf af)) k1 (by lia) (by lia) h1 s1 (by rw [ax];exact s2) k2 (fun i d1 d2=>by
   have:=m3 (i - n1) (by lia) (by lia)
   rwa [Nat.add_sub_cancel' (by lia)] at this) hr (by rw [ow])
  have hz:=P.size_eq.trans ax
  exact h _ (P.trans oX) k9 ly (by rw [hz] at S;exact S)
 have iX:∀ i (h:i < (a.extract k n1).size),gE (a.extract k n1)[i]:=fun i h=>by rw [Array.getElem_extract];exact iA _ _
 have iY:∀ i (h:i < (a.extract n1 (n1+m)).size),gE (a.extract n1 (n1+m))[i]:=fun i h=>by rw [Array.getElem_extract];exact iA _ _
 have sx:=i9 s1 (Nat.zero_le k) (Nat.le_refl n1)
 have sy:=i9 s2 (Nat.le_refl n1) (show n1+m<=a₀.size by lia)
 have c1:∀ i,i < (a.extract k n1).size->K (a.extract n1 (n1+m)) 0<=K (a.extract k n1) i:=fun i hi=>by
  rw [kD hi,kD (by lia)]
  exact Int.le_of_lt (k3 _ (by lia) (by lia))
 have c2:∀ i,i < (a.extract n1 (n1+m)).size->K (a.extract n1 (n1+m)) i<=K (a.extract k n1) ((a.extract k n1).size - 1):=fun i hi=>by
  rw [kD hi,kD (by lia),hx,show k+(n1 - k - 1)=n1 - 1 by lia]
  exact Int.le_of_lt (m2 _ (by lia))
 rw [Nat.zero_add k]
 refine (?_:wpS _ _ _ _ (ite (n1 - k<=m) _ _) _ _)
 split
 ·refine wpS_bind (zK (a:=a.extract k n1) (b:=a.extract n1 (n1+m)) rfl iX iY sx sy (by lia) (by lia) c1 c2 fun r af hs hr=>?_)
  refine wpS_bind (wpS_modify (wpS_bind (wpS_get ?_)))
  have z:=fin r af hs.a hs.f ((congrArg Array.size hs.p).trans (jW _ _ _)) hr
  have e:(failedOf af).isNone=true:=by rw [hs.f];rfl
  rw [<- e] at z
  exact wpS_pure z
 ·refine wpS_bind (zL (a:=a.extract k n1) (b:=a.extract n1 (n1+m)) rfl iX iY sx sy (by lia) (by lia) c1 c2 fun r af hs hr=>?_)
  refine wpS_bind (wpS_modify (wpS_bind (wpS_get ?_)))
  have z:=fin r af hs.a hs.f ((congrArg Array.size hs.p).trans (jW _ _ _)) hr
  have e:(failedOf af).isNone=true:=by rw [hs.f];rfl
  rw [<- e] at z
  exact wpS_pure z
end
theorem vQ {n:Nat}(h2:2<=n) (lz:n<=65):1<=minRun' n n 0/\minRun' n n 0<=n/\n<=2 * minRun' n n 0:=by
 by_cases h:n < 64
 ·have e:minRun' n n 0=n:=by
   obtain ⟨f,hf⟩:∃ f,n=f+1:=⟨n - 1,by lia⟩
   rw [hf,minRun'_succ,if_pos (by lia),Nat.add_zero]
  rw [e]
  lia
 ·have:n=64∨n=65:=by lia
  rcases this with rfl | rfl<;>decide+kernel
section
variable {prog:Program}{w:World}{A:Around}{E:Value->Shared->Prop}{s:Shared}{a₀:Array Keyed}{F:Nat->Int}{st:SortSt}
inductive zO (a₀:Array Keyed) (F:Nat->Int) (st:SortSt):Prop
 | one (hB:SL a₀ 0 F #[(0,a₀.size,0)] st) (hs:cy (PyProof.Rows.arrOf st) 0 a₀.size)
 | two (n1 n2 pw:Nat) (h1:1<=n1) (h2:1<=n2) (hn:n1+n2=a₀.size) (hB:SL a₀ 0 F #[(0,n1,pw),(n1,n2,0)] st) (s1:cy (PyProof.Rows.arrOf st) 0 n1) (s2:cy (PyProof.Rows.arrOf st) n1 a₀.size)
structure RB (a₀:Array Keyed) (F:Nat->Int) (n1:Nat) (st:SortSt):Prop where
 g1:1<=n1
 g2:n1 < a₀.size
 g3:minRun' a₀.size a₀.size 0<=n1
 hB:SL a₀ 0 F #[(0,n1,0)] st
 hs:cy (PyProof.Rows.arrOf st) 0 n1
inductive RE {β:Type}(a₀:Array Keyed) (F:Nat->Int):Option β×Nat->SortSt->Prop
 | mk {s2:SortSt}:zO a₀ F s2->RE a₀ F (none,a₀.size) s2
inductive RJ {β:Type}(a₀:Array Keyed) (F:Nat->Int) (x:Nat):Option β×Nat->SortSt->Prop
 | a {s2:SortSt}:x=0->SL a₀ 0 F #[] s2->RJ a₀ F x (none,0) s2
 | b {n1:Nat}{s2:SortSt}:x=1->RB a₀ F n1 s2->RJ a₀ F x (none,n1) s2
 | c {s2:SortSt}:1<=x->zO a₀ F s2->RJ a₀ F x (none,a₀.size) s2
noncomputable abbrev RQ {β:Type}(a₀:Array Keyed) (F:Nat->Int) (x:Nat) (r:ForInStep (Option β×Nat)) (st:SortSt):Prop:=match r with
 | .done c=>RE a₀ F c st
 | .yield c=>RJ a₀ F (x+1) c st
structure RP (a₀:Array Keyed) (st:SortSt):Prop where
 e1:(PyProof.Rows.arrOf st).Perm a₀
 e2:failedOf st=none
 e3:SortedTo (PyProof.Rows.arrOf st) a₀.size
inductive RM {β:Type}(a₀:Array Keyed) (af:SortSt) (x:Nat):Option β×Unit->SortSt->Prop
 | a:x=0->RM a₀ af x (none,()) af
 | b {s2:SortSt}:1<=x->(pendingOf s2).size=1->RP a₀ s2->RM a₀ af x (none,()) s2
inductive RN {β:Type}(a₀:Array Keyed):Option β×Unit->SortSt->Prop
 | mk {s2:SortSt}:RP a₀ s2->RN a₀ (none,()) s2
theorem vR {Q:Unit->SortSt->Prop}(h0:∀ i (h:i < a₀.size),gE a₀[i]) (h2:2<=a₀.size) (lz:a₀.size<=65) (hB:SL a₀ 0 F #[] st)
  (h:∀ af,(PyProof.Rows.arrOf af).Perm a₀->failedOf af=none->SortedTo (PyProof.Rows.arrOf af) a₀.size->Q () af):wpS (model prog w) A E s sortRuns' Q st:=by
 refine wpS_bind (wpS_get ?_)
 have ax:=hB.size
 obtain ⟨m1,m2,m3⟩:=vQ h2 lz
 refine (?_:wpS _ _ _ _ (bind (forIn [0:(PyProof.Rows.arrOf st).size] (none,0) _) _) _ _)
 rw [ax]
 refine wpS_bind (wpS_mono (wpS_forRange (I:=RJ a₀ F) (Q:=RE a₀ F) ?step ?fin (.a rfl hB)) ?post)
 case fin=>
  rintro c af (⟨e,_⟩ | ⟨e,_⟩ | ⟨_,hD⟩)
  ·lia
  ·lia
  ·exact .mk hD
 case step=>
  rintro x c af _ hx (⟨ex,jV⟩ | @⟨n1,_,ex,I⟩ | ⟨_,hD⟩)
  ·refine (?_:wpS _ _ _ _ (ite (0≥a₀.size) _ _) _ _)
   refine ao (by lia) ?_
   refine wpS_bind (rj (lo:=0) (nrem:=a₀.size) h0 (by lia) (by lia) jV fun m dH rk d1 d2 d3=>?_)
   rw [Nat.zero_add] at d3
   dsimp -zeta only
   extract_lets _ jp
   have key:∀ n du,minRun' a₀.size a₀.size 0<=n->n<=a₀.size->SL a₀ 0 F #[] du->cy (PyProof.Rows.arrOf du) 0 n->wpS (model prog w) A E s (jp () n) (RQ a₀ F x) du:=by
    intro n du e1 e2 gS ly
    refine wpS_bind (wpS_get ?_)
    have hb:(pendingOf du).back?=none:=by rw [gS.pend];rfl
    rw [hb]
    refine wpS_bind (wpS_modify (wpS_pure ?_))
    rw [Nat.zero_add]
    have Ia:SL a₀ 0 F #[(0,n,0)] (PyProof.Rows.setPending du ((pendingOf du).push (0,n,0))):=⟨gS.perm,gS.kind,gS.failed,by show (pendingOf du).push _=_;rw [gS.pend];rfl,gS.pre⟩
    by_cases e:n=a₀.size
    ·subst e
     exact .c (Nat.le_add_left 1 x) (.one Ia ly)
    ·exact .b (by rw [ex]) ⟨by lia,by lia,e1,Ia,ly⟩
   by_cases z:m < minRun' a₀.size a₀.size 0
   ·refine (?_:wpS _ _ _ _ (ite (m < minRun' a₀.size a₀.size 0) _ _) _ _)
    refine ap z ?_
    refine wpS_bind (wpS_lift (wpAny_rule ⟨rfl,?_⟩))
    refine wpS_bind (rl (lo:=0) (n:=min (a₀.size - 0) (minRun' a₀.size a₀.size 0)) h0 (by lia) d1 (by lia) rk (by rw [Nat.zero_add];exact d3) fun du gS ly=>?_)
    rw [Nat.zero_add] at ly
    exact wpS_mono (key (min (a₀.size - 0) (minRun' a₀.size a₀.size 0)) du (by lia) (by lia) gS ly) fun r af hr=>by
     cases r<;>exact hr
   ·refine (?_:wpS _ _ _ _ (ite (m < minRun' a₀.size a₀.size 0) _ _) _ _)
    refine ao z ?_
    exact wpS_mono (key m dH (by lia) d2 rk d3) fun r af hr=>by
     cases r<;>exact hr
  ·have g1:=I.g1
   have g2:=I.g2
   have g3:=I.g3
   have jV:=I.hB
   refine (?_:wpS _ _ _ _ (ite (n1≥a₀.size) _ _) _ _)
   refine ao (by lia) ?_
   refine wpS_bind (rj (F:=K (PyProof.Rows.arrOf af)) (lo:=n1) (nrem:=a₀.size - n1) h0 (by lia) (by lia) ⟨jV.perm,jV.kind,jV.failed,jV.pend,fun _ _=>rfl⟩ fun m dH rk d1 d2 d3=>?_)
   dsimp -zeta only
   extract_lets _ jp
   have key:∀ du,SL a₀ n1 (K (PyProof.Rows.arrOf af)) #[(0,n1,0)] du->cy (PyProof.Rows.arrOf du) n1 a₀.size->wpS (model prog w) A E s (jp () (a₀.size - n1)) (RQ a₀ F x) du:=by
    intro du gS ly
    refine wpS_bind (wpS_get ?_)
    have hb:(pendingOf du).back?=some (0,n1,0):=by rw [gS.pend];rfl
    rw [hb]
    refine wpS_bind (wpS_mono (wpS_forRange (I:=fun _ c jy=>RM a₀ du 0 c jy) (Q:=fun c jy=>RM a₀ du 0 c jy) ?_ (fun _ _ hh=>hh) (.a rfl)) ?_)
    ·rintro _ c jy _ _ (_ | ⟨g,_,_⟩)
     case b=>exact absurd g (Nat.not_lt_zero 0)
     refine wpS_bind (wpS_get ?_)
     have hz:¬ (pendingOf du).size>1:=by rw [gS.pend];exact Nat.lt_irrefl 1
     dsimp only
     rw [if_neg hz]
     exact wpS_pure (.a rfl)
    ·rintro c jy (_ | ⟨g,_,_⟩)
     case b=>exact absurd g (Nat.not_lt_zero 0)
     refine wpS_bind (wpS_modify (wpS_bind (wpS_modify (wpS_pure ?_))))
     rw [Nat.add_sub_cancel' (Nat.le_of_lt g2)]
     refine .c (Nat.le_add_left 1 x) (.two n1 (a₀.size - n1) (power' a₀.size (2 * 0+n1) (2 * 0+n1+n1+(a₀.size - n1)) a₀.size) g1 (by lia) (by lia) ⟨gS.perm,gS.kind,gS.failed,?_,fun i hi=>absurd hi (Nat.not_lt_zero _)⟩ (fun p q e1 e2 e3=>?_) ly)
     ·show ((pendingOf du).modify ((pendingOf du).size - 1) _).push _=_
      rw [gS.pend]
      rfl
     ·have z1:=gS.pre p (by lia)
      have z2:=gS.pre q e3
      show K (PyProof.Rows.arrOf du) p<=K (PyProof.Rows.arrOf du) q
      rw [z1,z2]
      exact I.hs p q e1 e2 e3
   by_cases z:m < minRun' a₀.size a₀.size 0
   ·refine (?_:wpS _ _ _ _ (ite (m < minRun' a₀.size a₀.size 0) _ _) _ _)
    refine ap z ?_
    refine wpS_bind (wpS_lift (wpAny_rule ⟨rfl,?_⟩))
    have e:min (a₀.size - n1) (minRun' a₀.size a₀.size 0)=a₀.size - n1:=by lia
    refine wpS_bind (rl (lo:=n1) (n:=min (a₀.size - n1) (minRun' a₀.size a₀.size 0)) h0 (by lia) d1 (by lia) rk d3 fun du gS ly=>?_)
    rw [e,Nat.add_sub_cancel' (by lia)] at ly
    have k:=key du gS ly
    rw [<- e] at k
    exact wpS_mono k fun r af hr=>by
     cases r<;>exact hr
   ·refine (?_:wpS _ _ _ _ (ite (m < minRun' a₀.size a₀.size 0) _ _) _ _)
    refine ao z ?_
    have e:m=a₀.size - n1:=by lia
    subst e
    rw [Nat.add_sub_cancel' (by lia)] at d3
    exact wpS_mono (key dH rk d3) fun r af hr=>by
     cases r<;>exact hr
  ·refine (?_:wpS _ _ _ _ (ite (a₀.size≥a₀.size) _ _) _ _)
   refine ap (Nat.le_refl _) ?_
   exact wpS_pure (.mk hD)
 case post=>
  rintro c af ⟨hD⟩
  refine wpS_bind (wpS_mono (wpS_forRange (I:=RM a₀ af) (Q:=RN a₀) ?stp ?fi (.a rfl)) ?pst)
  case pst=>
   rintro c jy ⟨e⟩
   exact wpS_pure (h jy e.e1 e.e2 e.e3)
  case fi=>
   rintro c jy (e | ⟨_,_,e⟩)
   ·lia
   ·exact .mk e
  case stp=>
   rintro x c jy _ hx (ex | ⟨g,e3,e⟩)
   ·refine wpS_bind (wpS_get ?_)
    cases hD with
    | one hB hs=>
     have hz:(pendingOf af).size<=1:=by rw [hB.pend];exact Nat.le_refl 1
     refine ap hz ?_
     exact wpS_pure (.mk ⟨hB.perm,hB.failed,fun i j d1 d2=>hs i j (Nat.zero_le _) d1 d2⟩)
    | two n1 n2 pw g1 g2 hn hB s1 s2=>
     have hz:¬ (pendingOf af).size<=1:=by rw [hB.pend];exact Nat.lt_irrefl 1
     refine ao hz ?_
     have ez:(pendingOf af).size - 2=0:=by rw [hB.pend];rfl
     dsimp only
     have m0:∀ i,i=0->wpS (model prog w) A E s (H8 i) (fun b af=>b=true/\(pendingOf af).size=1/\RP a₀ af) af:=fun i e=>by
      subst e
      exact zN h0 g1 g2 hn hB s1 s2 fun af e1 e2 e3 e4=>⟨rfl,e3,e1,e2,e4⟩
     refine wpS_bind (wpS_mono (m0 _ ?_) ?_)
     ·rw [ez]
      rfl
     ·rintro b KC ⟨rfl,e3,e⟩
      exact wpS_pure (.b (Nat.le_add_left 1 x) e3 e)
   ·refine wpS_bind (wpS_get ?_)
    refine ap (Nat.le_of_eq e3) ?_
    exact wpS_pure (.mk e)
end
theorem ae.are {ks:List Int}:∀ {l:List Value},l.map a9=ks.map (fun k=>Value.int k 0)->IntsAre l ks:=by
 induction ks with
 | nil=>intro l h;rw [List.map_eq_nil_iff.mp h];exact .nil
 | cons x ks ih=>
  intro l h
  obtain ⟨y,l,rfl,e1,e2⟩:=List.map_eq_cons_iff.mp h
  obtain ⟨t,rfl⟩:=aO e1
  exact .cons x t (ih e2)
theorem ae.ofAre:∀ {l:List Value}{ks:List Int},IntsAre l ks->l.map a9=ks.map fun k=>Value.int k 0
 | _,_,.nil=>rfl
 | _,_,.cons x t h=>by rw [List.map_cons,List.map_cons,ae.ofAre h];rfl
section
variable {prog:Program}{w:World}{A:Around}{E:Value->Shared->Prop}{s:Shared}
theorem zP {a:Addr}{vs:Array Value}{ns:List Int}{n:Nat}{P:PySem.Fin->Shared->Prop}(ho:s.heap.get? a=some (seqObj "list" vs n)) (hI:IntsAre vs.toList ns) (lz:vs.size<=65)
  (h:∀ h' out cD c,(∀ b o,b≠a->s.heap.get? b=some o->h'.get? b=some o)->h'.objs.size=s.heap.objs.size+2->h'.get? a=some (seqObj "list" out c)->IntsAre out.toList cD->cD.Perm ns->cD.Pairwise (·<=·)->P (.done (.ret .none)) {s with heap:=h'}):
  wpAny (model prog w) A (Builtin.«list.sort» ⟨[.ref a],[]⟩) P E s:=by
 rw [list_sort_plain]
 have s1:=Heap.SameBut.update s.heap a (Obj.mapSeq fun _=>(#[]:Array Value))
 obtain ⟨e1,vh⟩:∃ e1,(s.heap.update a (Obj.mapSeq fun _=>(#[]:Array Value))).get? a=some (seqObj "list" #[] e1):=⟨_,get?_update_seq ho fun _=>#[]⟩
 have hl:vs.size<=sizeLine:=cG (by lia)
 refine wpAny_bind (listItems_at ho rfl ?_)
 refine wpAny_bind (listUpdate_at ho rfl ?_ hl (Nat.zero_le _))
 refine wpAny_bind (seqEpoch_at vh rfl ?_)
 refine wpAny_bind (wpAny_newTuple ?_ (by rw [Array.length_toList];exact hl))
 refine wpAny_bind (wpAny_newList ?_ (Nat.zero_le _))
 refine wpAny_holding ?_
 have vS:(((s.heap.update a (Obj.mapSeq fun _=>(#[]:Array Value))).push (seqObj "tuple" vs.toList.toArray 0)).push (seqObj "list" #[] 0)).get? a=some (seqObj "list" #[] e1):=Heap.get?_push_of_some _ (Heap.get?_push_of_some _ vh)
 have ez:pairsOf vs.toList=vs.zip vs:=by unfold pairsOf;rw [Array.toArray_toList]
 have hz:∀ af:SortSt,(PyProof.Rows.arrOf af).Perm (vs.zip vs)->((PyProof.Rows.arrOf af).map (·.2)).size<=sizeLine+1:=fun af hp=>by
  rw [Array.size_map,hp.size_eq,Array.size_zip,Nat.min_self]
  exact Nat.le_succ_of_le hl
 have k6:∀ b o,b≠a->s.heap.get? b=some o->(((s.heap.update a (Obj.mapSeq fun _=>(#[]:Array Value))).push (seqObj "tuple" vs.toList.toArray 0)).push (seqObj "list" #[] 0)).get? b=some o:=fun b o hb e=>Heap.get?_push_of_some _ (Heap.get?_push_of_some _ ((s1.2 b hb).trans e))
 have z6:(((s.heap.update a (Obj.mapSeq fun _=>(#[]:Array Value))).push (seqObj "tuple" vs.toList.toArray 0)).push (seqObj "list" #[] 0)).objs.size=s.heap.objs.size+2:=by rw [size_push',size_push',s1.1]
 show wpAny (model prog w) A _ P E {s with heap:=((s.heap.update a (Obj.mapSeq fun _=>(#[]:Array Value))).push (seqObj "tuple" vs.toList.toArray 0)).push (seqObj "list" #[] 0)}
 generalize ((s.heap.update a (Obj.mapSeq fun _=>(#[]:Array Value))).push (seqObj "tuple" vs.toList.toArray 0)).push (seqObj "list" #[] 0)=h6 at vS k6 z6
 dsimp only
 have fin:∀ af:SortSt,(PyProof.Rows.arrOf af).Perm (vs.zip vs)->SortedTo (PyProof.Rows.arrOf af) (vs.zip vs).size->P (.done (.ret .none)) {s with heap:=h6.update a (Obj.mapSeq fun _=>(PyProof.Rows.arrOf af).map (·.2))}:=by
  intro af hp hs
  obtain ⟨cD,h1,h2,h3⟩:=sorted_out (xs:=PyProof.Rows.arrOf af) hI (ez▸hp) (ez▸hs)
  have s2:=Heap.SameBut.update h6 a (Obj.mapSeq fun _=>(PyProof.Rows.arrOf af).map (·.2))
  obtain ⟨c2,yL⟩:∃ c2,(h6.update a (Obj.mapSeq fun _=>(PyProof.Rows.arrOf af).map (·.2))).get? a=some (seqObj "list" ((PyProof.Rows.arrOf af).map (·.2)) c2):=⟨_,get?_update_seq vS fun _=>(PyProof.Rows.arrOf af).map (·.2)⟩
  exact h _ _ cD c2 (fun b o hb e=>(s2.2 b hb).trans (k6 b o hb e)) (s2.1.trans z6) yL h1 h2 h3
 by_cases h2:vs.size < 2
 ·rw [if_pos h2,if_pos h2]
  refine wpAny_bind (wpAny_pure ?_)
  rw [StateT.run_pure]
  refine wpAny_bind (wpAny_pure ?_)
  dsimp only
  refine wpAny_bind (seqEpoch_at vS rfl ?_)
  refine wpAny_bind (listUpdate_at vS rfl ?_ (Nat.zero_le _) (hz (SortSt.mk' general' (vs.zip vs) #[] 7 none) (Array.Perm.refl _)))
  simp only [bne_self_eq_false,Bool.false_eq_true,if_false]
  refine wpAny_pure (fin (SortSt.mk' general' (vs.zip vs) #[] 7 none) (Array.Perm.refl _) fun i j BG hj=>?_)
  rw [Array.size_zip,Nat.min_self] at hj
  have:i=j:=by lia
  subst this;exact Int.le_refl _
 ·rw [if_neg h2,if_neg h2]
  have J0:keyKind' vs=pure oneType':=by
   obtain ⟨l⟩:=vs
   match l,hI,h2 with
   | [],_,h2=>exact absurd Nat.zero_lt_two h2
   | [_],_,h2=>exact absurd Nat.one_lt_two h2
   | Kn::Ko::rest,hI,_=>exact keyKind_ints hI
  rw [J0]
  refine wpAny_bind (wpAny_pure ?_)
  have hK:=hI.intKeys
  rw [ez] at hK
  have ax:(vs.zip vs).size=vs.size:=by rw [Array.size_zip,Nat.min_self]
  have z:wpS (model prog w) A E {s with heap:=h6} sortRuns' (fun _ af=>(PyProof.Rows.arrOf af).Perm (vs.zip vs)/\failedOf af=none/\SortedTo (PyProof.Rows.arrOf af) (vs.zip vs).size) (SortSt.mk' oneType' (vs.zip vs) #[] 7 none):=
   vR (F:=fun _=>0) (fun i hi=>hK _ (Array.getElem_mem_toList hi)) (by rw [ax];lia) (by rw [ax];exact lz) ⟨Array.Perm.refl _,rfl,rfl,rfl,fun i hi=>absurd hi (Nat.not_lt_zero _)⟩ fun af a1 a2 a3=>⟨a1,a2,a3⟩
  unfold wpS at z
  refine wpAny_bind (wpAny_mono z ?_ fun _ _ e=>e)
  rintro ⟨⟨⟩,af⟩ s' ⟨rfl,hp,hf,hs⟩
  dsimp only
  refine wpAny_bind (seqEpoch_at vS rfl ?_)
  refine wpAny_bind (listUpdate_at vS rfl ?_ (Nat.zero_le _) (hz af hp))
  rw [hf]
  simp only [bne_self_eq_false,Bool.false_eq_true,if_false]
  exact wpAny_pure (fin af hp hs)
end
section
variable {prog:Program}{w:World}{A:Around}{E:Value->Shared->Prop}{s:Shared}
theorem rn {l:Addr}{vs:Array Value}{ns:List Int}{n:Nat}{Q:PySem.Fin->Shared->Prop}(ho:s.heap.get? l=some (ad vs n)) (hI:IntsAre vs.toList ns) (lz:vs.size<=65)
  (h:∀ h' out cD c,(∀ b o,s.heap.get? b=some o->h'.get? b=some o)->h'.objs.size=s.heap.objs.size+4->h'.get? (s.heap.objs.size+1)=some (ad out c)->IntsAre out.toList cD->cD.Perm ns->cD.Pairwise (·<=·)->Q (.done (.ret (.ref (s.heap.objs.size+1)))) {s with heap:=h'}):
  wpAny (model prog w) A (Builtin.«sorted» ⟨[.ref l],[]⟩) Q E s:=by
 have hl:vs.toList.length<=sizeLine:=by rw [Array.length_toList];exact cG (by lia)
 have Kp:(s.heap.push (seqObj "list" #[] 0)).get? s.heap.objs.size=some (seqObj "list" #[] 0):=Heap.get?_push_size _ rfl
 have su:=Heap.SameBut.update (s.heap.push (seqObj "list" #[] 0)) s.heap.objs.size (Obj.mapSeq (·++vs.toList.toArray))
 have k1:∀ b o,s.heap.get? b=some o->((s.heap.push (seqObj "list" #[] 0)).update s.heap.objs.size (Obj.mapSeq (·++vs.toList.toArray))).get? b=some o:=fun b o e=>
  (su.2 b (Nat.ne_of_lt (Heap.lt_size e))).trans (Heap.get?_push_of_some _ e)
 have z1:((s.heap.push (seqObj "list" #[] 0)).update s.heap.objs.size (Obj.mapSeq (·++vs.toList.toArray))).objs.size=s.heap.objs.size+1:=by rw [su.1,size_push']
 unfold Builtin.«sorted»
 refine wpAny_bind (m:=checkCount "sorted" 1 1 _) (wpAny_pure ?_)
 refine wpAny_bind (collect_list (vs:=vs.toList) ⟨_,ho,rfl,n,by rw [Array.toArray_toList];rfl⟩ ?_ hl)
 generalize (s.heap.push (seqObj "list" #[] 0)).update s.heap.objs.size (Obj.mapSeq (·++vs.toList.toArray))=h1 at k1 z1
 refine wpAny_bind (wpAny_newList ?_ hl)
 rw [Array.toArray_toList]
 have Fo:(h1.push (seqObj "list" vs 0)).get? (s.heap.objs.size+1)=some (seqObj "list" vs 0):=by rw [<- z1];exact Heap.get?_push_size _ rfl
 have k2:∀ b o,s.heap.get? b=some o->(h1.push (seqObj "list" vs 0)).get? b=some o:=fun b o e=>Heap.get?_push_of_some _ (k1 b o e)
 have z2:(h1.push (seqObj "list" vs 0)).objs.size=s.heap.objs.size+2:=by rw [size_push',z1]
 dsimp only
 rw [z1]
 generalize h1.push (seqObj "list" vs 0)=h2 at Fo k2 z2
 refine wpAny_bind (wpAny_holding (wpAny_call_entry slot_list_sort ⟨_,Fo,rfl⟩ entry_list_sort (zP (s:={s with heap:=h2}) Fo hI lz fun h' out cD c a1 a2 a3 a4 a5 a6=>⟨_,rfl,?_⟩) (args_list_sort _)))
 exact wpAny_pure (h h' out cD c (fun b o e=>a1 b o (fun q=>by have:=Heap.lt_size e;lia) (k2 b o e)) (a2.trans (by rw [z2])) a3 a4 a5 a6)
end
structure Ib (ks:List Int) where
 out:Array Value
 c:Nat
 hI:ae out (ks.mergeSort fun a b=>decide (a<=b))
theorem mW {a b:List Int}(hp:a.Perm b) (hs:a.Pairwise (·<=·)):a=b.mergeSort fun a b=>decide (a<=b):=by
 refine List.Perm.eq_of_pairwise (le:=fun a b:Int=>a<=b) (fun x y _ _ h1 h2=>Int.le_antisymm h1 h2) hs ?_ (hp.trans (List.mergeSort_perm b _).symm)
 have:=List.pairwise_mergeSort (le:=fun a b:Int=>decide (a<=b)) (fun a b c h1 h2=>by simp at *;lia) (fun a b=>by simp;lia) b
 exact this.imp fun h=>by simpa using h
section
variable {E:En}{d:Drawn}{os:OsState}
noncomputable def uk (i:Nat) (l e:Nat) (xs:Array Value) {ks:List Int}(hx:ae xs ks) (lz:ks.length<=65):ay E d os:=
 ay.leaf (Ib ks) ⟨_,0,eX _⟩ (fun q=>(q.code,Y q.m i)) (.builtin "sorted" ⟨[.ref l],[]⟩,some (l,ad xs e)) (fun _ q=>.ref (q.n+1)) (fun x q=>bh q.m (q.n+1,ad x.out x.c)) (fun _ q=>q.n+4) (fun _ q=>q.tk) (fun _=>True) (by
  intro V U q Q h g e' hc hg hr kk
  obtain ⟨e1,e2⟩:=Prod.ext_iff.mp e'
  dsimp only at e1 e2
  refine am (hc.trans e1) entry_sorted ?_
  refine Sem.wp_mono _ _ _ (fun a p' s' h'=>?_) (fun e p' s' h'=>h'.elim) _ _ (aR (Q:=fun f s'=>∃ v,f=.done (.ret v)/\Q (.ok (.ret v)) s') (E:=fun _ _=>False)
   (rn (hr.own _ _ _ e2) (ae.are hx) (by rw [hx.size];exact lz) fun h' out cD c a1 a2 a3 a4 a5 a6=>⟨_,rfl,?_⟩) _)
  ·obtain ⟨v,rfl,h'⟩:=h'
   exact h'
  ·have hz:h.objs.size=q.n:=hr.size
   dsimp only at a1 a2 a3 ⊢
   rw [hz] at a2 a3 ⊢
   have r:=(hr.grow a2 (by lia) a1).know a3 (Nat.le_succ_of_le hr.start) (fun i o e=>by have:=hr.lt e;lia) (hr.lowT _ (by lia))
   exact kk ⟨out,c,by rw [<- mW a5 a6];exact ae.ofAre a4⟩ trivial h' g hg r)
end
theorem ro {prog:Program}{w:World}{Γ:Ctx}{id:String}{args:Args}{b:Builtin}{m:Made}{R:Result->Shared->Prop}{p:Pos}{s:Shared}(aF:Γ.code=.builtin id args) (hb:entryFor table id=some b) (pl:plainId id=true) (g:Gives (b args) m) (h:m.post (fun v s'=>R (.ok (.ret v)) s') s):wpCode (model prog w) Γ R p s:=
 codeAny_builtin hb (by rw [Around.under_plainId pl];exact g prog w _ R s h) Γ p aF (fR Γ)
section
variable {E:En}{d:Drawn}{os:OsState}
noncomputable def zQ (b:Int):ay E d os:=
 ay.leaf Unit () (fun q=>bG q.code) (some ("int.__mul__",[.int 2 0,.int b 0])) (fun _ q=>.int (2 * b) q.tk) (fun _ q=>q.m) (fun _ q=>q.n) (fun _ q=>q.tk+1) (fun _=>True) (by
  intro V U q Q h g e1 hc hg hr kk
  obtain ⟨pos,e3,e4⟩:=b7 e1
  obtain ⟨x,y,rfl,h2,h3⟩:=map_two e4
  obtain ⟨u,rfl⟩:=aO h2
  obtain ⟨u',rfl⟩:=aO h3
  exact ro (hc.trans e3) F.entry_int_mul (by decide+kernel) (AutoIntG1.int___mul___int_int_0 2 u b u' (.of_left (by decide))) (kk () trivial h g hg hr))
end
section
variable {M N r:Int}{b1 b2:Bool}{d:Drawn}{e0 fe j k0 k1 k2 k3 k4 k5 l le lf li t tM tN te tk:Nat}{fs ls xs ys zs:Array Value}{p4:Pos}{w:World}
theorem J1 {os:OsState}{q0 q3:Value}{A LA FA:List Int}{ss:bl}(hX:ae xs A) (hL:ae ls LA) (hF:ae fs FA) (hZ:ae zs FA) (Fp:ae (ls++fs) (LA++FA)) (hy:slicePick ls (some (-1)) none none=ys) (fC:ls.size<=1000) (hr:max 0 (2 * M - N - 1)=r) (qO:ys.size<=1) (Em:0<=r) (dK:r<=1000) (hz:(List.replicate r.toNat ys.toList).flatten.toArray=zs) (hn:ls.size+fs.size<=1000) (lz:(LA++FA).length<=65) (zR:A.length<=65) (he:lu true (decide (FA=FA))=false) (nc:lu true (decide ((LA++FA).mergeSort (fun a b=>decide (a<=b))=A.mergeSort (fun a b=>decide (a<=b))))=false):
  Qb b1 b2 d os fun b1 b2=>⟨Ad w b1 b2,5,(dm (W2 w b1 b2) l p4),d9 (aC (W2 w b1 b2) 6 1) (bJ (W2 w b1 b2) l),[(l+1109,aj #[A9 w b1 b2 k0 q0,AH w b1 b2 aq k1 N tN,AH w b1 b2 bI k2 M tM,aa (W2 w b1 b2) bL k3 q3,A0 w b1 b2 bX k4 li,A0 w b1 b2 cP k5 lf] e0 ss),(l+1110,ck (Aa t)),Ak t xs te,Ak li ls le,Ak lf fs fe],j+1109,tk,.u (nq 3 5 (li+1109) (j+1109) le ls (.int (-1) (tk+1)) .none (some (-1)) none ys (.int _ _) .none hy fC)<| .u (zQ M)<| .c (yH 0 l (aj #[A9 w b1 b2 k0 q0,AH w b1 b2 aq k1 N tN,AH w b1 b2 bI k2 M tM,aa (W2 w b1 b2) bL k3 q3,A0 w b1 b2 bX k4 li,A0 w b1 b2 cP k5 lf] e0 ss) 0 (2 * M - N - 1) r hr) fun x3=>.u (D2 6 (j+1110) 0 ys r zs qO Em dK hz)<| .u (my true 4 7 (lf+1109) (x3.j+1109) fe 0 fs zs hF hZ false he)<| .u (oK 3 4 (li+1109) (lf+1109) le fe ls fs hn)<| .c (uk 8 (x3.j+1110) 0 (ls++fs) Fp lz) fun x7=>.c (uk 2 (t+1109) te xs hX zR) fun x8=>.u (my true 9 10 (x3.j+1112) (x3.j+1116) x7.c x8.c x7.out x8.out x7.hI x8.hI false nc)<| .e (.e (.done .next) [(l+1109,(aj #[A9 w b1 b2 k0 q0,AH w b1 b2 aq k1 N tN,AH w b1 b2 bI k2 M tM,aa (W2 w b1 b2) bL k3 q3,A0 w b1 b2 bX k4 li,A0 w b1 b2 cP k5 lf] e0 ss)),(l+1110,(ck (Aa t))),Ah t xs te,Ah li ls le,Ah lf fs fe] ((x3.j)+1119) ((x3.3)))⟩:=bE 177 [1,1,0,0,4,4,4,0,4,1] [[0,0,1,0,1],[1,0,0,0,0,1],[7,0,0,7,7,0,7,1],[5,8,5,0,5,1],[0,0,1,1,4,5,4,0,4,1],[0,1],[0,0,2,0,1],[10,11,10,0,10,1],[]] [] 177 [1,1,0,0,4,4,4,0,4,1] [[0,0,1,0,1],[1,0,0,0,0,1],[7,0,0,7,7,0,7,1],[5,8,5,0,5,1],[0,0,1,1,4,5,4,0,4,1],[0,1],[0,0,2,0,1],[10,11,10,0,10,1],[]] [] (by kernel_rfl)
end
theorem J2 {d:Drawn}{os:OsState}{w:World}{b1 b2:Bool}{j tk:Nat}{l t e k0 k1 k2 k3 k4 k5 e0:Nat}{q0 q1 q2 q3 q4 q5:Value}{xs:Array Value}{A:List Int}{ss:bl}{p4:Pos}(hA:ae xs A) (dk:A.length<=sizeLine) (Fc:(A.foldl bq []).length < 64) (hG:Good (A.foldl bq [])) (hz:aM (A.foldl bq [])<=300) (dx:(j+1+1109==sysModules)=false):
  Qb b1 b2 d os fun b1 b2=>⟨Ad w b1 b2,3,(dm (W2 w b1 b2) l p4),d9 (aC (W2 w b1 b2) 7 2) (bJ (W2 w b1 b2) l),[(l+1109,aj #[A9 w b1 b2 k0 q0,Ai w b1 b2 aq k1 q1,Ai w b1 b2 bI k2 q2,aa (W2 w b1 b2) bL k3 q3,Ai w b1 b2 bX k4 q4,Ai w b1 b2 cP k5 q5] e0 ss),(l+1110,ck (Aa t)),Ak t xs e],j+1109,tk,.c (Dg j t e xs hA dk 2) fun x1=>.c (Fb x1.j (j+1) j x1.rp x1.rs x1.hT Fc hG hz dx [3,4] (by decide) rfl) fun x2=>.e (.e (.done .next) [(l+1109,aj #[A9 w b1 b2 k0 q0,Ai w b1 b2 aq k1 q1,Ai w b1 b2 bI k2 q2,aa (W2 w b1 b2) bL k3 (.ref (j+1110)),Ai w b1 b2 bX k4 q4,Ai w b1 b2 cP k5 q5,Ai w b1 b2 a7 (x2.14) (.ref ((x1.j)+1110))] (e0+1) (ss)),(l+1110,(Al t)),Ax t xs e,Ab j,(j+1110,Ac j (sM.es x2) (x2.ep)),((x1.j)+1110,(ad (sM.ls x2) (x2.se)))] ((x2.j)+1109) ((x2.14)+1))⟩:=bE 96 [0,2,0,0,1] [[1,1,0,1,0,1],[1,1]] [3,4,5] 96 [0,2,0,0,1] [[1,1,0,1,0,1],[1,1]] [3,4,5] (by kernel_rfl)
section
variable {M N r:Int}{b1 b2:Bool}{d:Drawn}{e0 fe j k0 k1 k2 k3 k4 k5 k6 l le lf li t tM tN te tk:Nat}{fs ls xs:Array Value}{p4:Pos}{w:World}
theorem Ic {os:OsState}{q0 q3 q4:Value}{A LA FA:List Int}{ss:bl}(hX:ae xs A) (Fp:ae (ls++fs) (LA++FA)) (J3:fs.size<=1000) (hr:max (N.fmod 2) (2 * M - N)=r) (hn:ls.size+fs.size<=1000) (lz:(LA++FA).length<=65) (zR:A.length<=65) (he:(Int.ofNat fs.size==r)=true) (nc:lu false (decide ((LA++FA).mergeSort (fun a b=>decide (a<=b))=A.mergeSort (fun a b=>decide (a<=b))))=true):
  Qw w b1 b2 d os fun W=>⟨E2 W,5,(dm W l p4),d9 (aC W 10 1) (bJ W l),[(l+1109,aj #[aa W dD k0 q0,aa W aq k1 (.int N tN),aa W bI k2 (.int M tM),aa W bL k3 q3,aa W bX k4 q4,aa W cP k5 (.ref (lf+1109)),aa W a7 k6 (.ref (li+1109))] e0 ss),(l+1110,ck (.ref (t+1109))),(t+1109,ad xs te),(li+1109,ad ls le),(lf+1109,ad fs fe)],j+1109,tk,.u (yF 4 (lf+1109) fe fs J3)<| .u (zQ M)<| .c (yH 0 l (aj #[aa W dD k0 q0,aa W aq k1 (.int N tN),aa W bI k2 (.int M tM),aa W bL k3 q3,aa W bX k4 q4,aa W cP k5 (.ref (lf+1109)),aa W a7 k6 (.ref (li+1109))] e0 ss) (N.fmod 2) (2 * M - N) r hr) fun x3=>.u (i0 "int.__eq__" F.entry_int_eq (fun a b=>a==b) (fun _ _ _ _=>rfl) (Int.ofNat fs.size) r true he)<| .u (oK 3 4 (li+1109) (lf+1109) le fe ls fs hn)<| .c (uk 5 (x3.j+1109) 0 (ls++fs) Fp lz) fun x7=>.c (uk 2 (t+1109) te xs hX zR) fun x8=>.u (my false 6 7 (x3.j+1111) (x3.j+1115) x7.c x8.c x7.out x8.out x7.hI x8.hI true nc)<| .e (.e (.done (.ret (.bool true))) [(l+1109,(aj #[aa W dD k0 q0,aa W aq k1 (.int N tN),aa W bI k2 (.int M tM),aa W bL k3 q3,aa W bX k4 q4,aa W cP k5 (.ref (lf+1109)),aa W a7 k6 (.ref (li+1109))] e0 ss)),(l+1110,(ck (.ref (t+1109)))),(t+1109,(ad xs te)),(li+1109,(ad ls le)),(lf+1109,(ad fs fe))] ((x3.j)+1118) ((x3.3)))⟩:=bE 150 [0,0,1,0,1] [[0,0,1,0,0,1,0,1],[1,0,0,1],[0,1],[0,0,1,1,4,5,4,0,4,1],[0,1],[0,0,2,0,1],[7,8,7,0,7,1],[]] [] 150 [0,0,1,0,1] [[0,0,1,0,0,1,0,1],[1,0,0,1],[0,1],[0,0,1,1,4,5,4,0,4,1],[0,1],[0,0,2,0,1],[7,8,7,0,7,1],[]] [] (by kernel_rfl)
end
theorem bt (x:Int×Int) (r:KV):ai (x::r)=List.replicate x.2.toNat x.1++ai r:=rfl
theorem e9 {r:KV}(h:∀ x∈r,0<=x.2):((ai r).length:Int)=aM r:=by
 induction r with
 | nil=>rfl
 | cons x r ih=>
  rw [bt,aT,List.length_append,List.length_replicate,Int.natCast_add,ih fun y hy=>h y (List.mem_cons_of_mem _ hy),Int.toNat_of_nonneg (h x (List.mem_cons_self ..))]
theorem gT {r:KV}(h:∀ x∈r,0<=x.2) {x:Int×Int}(hx:x∈r):x.2<=aM r:=by
 induction r with
 | nil=>cases hx
 | cons y r ih=>
  have hn:=fun y hy=>h y (List.mem_cons_of_mem _ hy)
  have h0:=h y (List.mem_cons_self ..)
  have hz:0<=aM r:=by rw [<- e9 hn];exact Int.natCast_nonneg _
  rw [aT]
  rcases List.mem_cons.mp hx with rfl | hx
  ·lia
  ·have:=ih hn hx
   lia
theorem oY {r:KV}(h:∀ x∈r,0<=x.2) {x y:Int×Int}(hx:x∈r) (hy:y∈r) (bx:x.1≠y.1):x.2+y.2<=aM r:=by
 induction r with
 | nil=>cases hx
 | cons z r ih=>
  have hn:=fun y hy=>h y (List.mem_cons_of_mem _ hy)
  have h0:=h z (List.mem_cons_self ..)
  rw [aT]
  rcases List.mem_cons.mp hx with e1 | hx
  ·rcases List.mem_cons.mp hy with e2 | hy
   ·exact absurd (congrArg Prod.fst (e1.trans e2.symm)) bx
   ·have:=gT hn hy
    rw [e1];lia
  ·rcases List.mem_cons.mp hy with e2 | hy
   ·have:=gT hn hx
    rw [e2];lia
   ·have:=ih hn hx hy
    lia
theorem jz {r:KV}(nd:(r.map (·.1)).Nodup) {k:Int}(hk:k∈r.map (·.1)) (hp:∀ x∈r,x.1=k->0 < x.2):(k::ai (r.map (cu k))).Perm (ai r):=by
 induction r with
 | nil=>cases hk
 | cons y r ih=>
  rw [List.map_cons,List.nodup_cons] at nd
  rw [List.map_cons,bt,bt]
  by_cases e:y.1=k
  ·rw [mL (e▸nd.1)]
   have h0:=hp y (List.mem_cons_self ..) e
   have e2:cu k y=(y.1,y.2 - 1):=by unfold cu;rw [if_pos e]
   rw [e2,<- List.cons_append,<- e,<- List.replicate_succ,show (y.2 - 1).toNat+1=y.2.toNat by lia]
  ·have e2:cu k y=y:=by unfold cu;rw [if_neg e]
   rw [e2]
   rw [List.map_cons,List.mem_cons] at hk
   refine List.perm_middle.symm.trans (List.Perm.append_left _ ?_)
   exact ih nd.2 (hk.resolve_left fun z=>e z.symm) fun x hx=>hp x (List.mem_cons_of_mem _ hx)
theorem jX {r:KV}(nd:(r.map (·.1)).Nodup) {x y:Int×Int}(hx:x∈r) (hy:y∈r) (e:x.1=y.1):x=y:=by
 have h1:=iN nd hx
 have h2:=iN nd hy
 rw [e,h2] at h1
 exact Prod.ext e h1.symm
theorem vT {r:KV}(h:∀ y∈r,y.2=0):aM r=0:=by
 induction r with
 | nil=>rfl
 | cons u r ih=>
  rw [aT,h u (List.mem_cons_self ..),ih fun y hy=>h y (List.mem_cons_of_mem _ hy)]
  rfl
theorem vU {r:KV}(nd:(r.map (·.1)).Nodup) {x:Int×Int}(ho:∀ y∈r,y.1≠x.1->y.2=0) (hx:x∈r):x.2=aM r:=by
 induction r with
 | nil=>cases hx
 | cons z r ih=>
  rw [List.map_cons,List.nodup_cons] at nd
  rw [aT]
  rcases List.mem_cons.mp hx with e | hm
  ·subst e
   rw [vT fun y hy=>ho y (List.mem_cons_of_mem _ hy) fun e=>nd.1 (e▸List.mem_map_of_mem hy),Int.add_zero]
  ·rw [ho z (List.mem_cons_self ..) fun e=>nd.1 (e▸List.mem_map_of_mem hm),Int.zero_add]
   exact ih nd.2 (fun y hy=>ho y (List.mem_cons_of_mem _ hy)) hm
noncomputable def vL (S:Int) (js:List Int) (x:Int×Int):Int:=if [x.1]=js then 2 * x.2 - S else 2 * x.2 - S - 1
structure fU (A:List Int) (D:Int) (s:KV×List Int):Prop where
 nd:(s.1.map (·.1)).Nodup
 nn:∀ x∈s.1,0<=x.2
 pm:(s.2++ai s.1).Perm A
 d0:0<=D
 le:∀ x∈s.1,vL (aM s.1) (bA s.2) x<=D
 eq:D=0∨∃ x∈s.1,vL (aM s.1) (bA s.2) x=D
noncomputable def jA (s:KV×List Int):Prop:=∀ x∈s.1,0 < x.2->[x.1]=bA s.2
theorem kY {js:List Int}{x:Int×Int}:freeOf js x=true↔0 < x.2/\[x.1]≠js:=by
 unfold freeOf
 rw [Bool.and_eq_true,decide_eq_true_iff]
 show _/\(!decide ([x.1]=js))=true↔_
 simp
theorem kZ (A:List Int) (k:Int):bA (A++[k])=[k]:=by
 unfold bA
 rw [List.length_append,List.length_singleton,Nat.add_sub_cancel,List.drop_left]
theorem mX {js:List Int}{L:KV}(hd:gY L):(br js L=[]/\∀ x∈L,0 < x.2->[x.1]=js)∨∃ x rest,br js L=x.1::rest/\x∈L/\0 < x.2/\[x.1]≠js/\∀ y∈L,0 < y.2->[y.1]≠js->y.2<=x.2:=by
 induction L with
 | nil=>exact .inl ⟨rfl,fun x h=>nomatch h⟩
 | cons z L ih=>
  rw [gY,List.pairwise_cons] at hd
  cases q:freeOf js z with
  | true=>
   obtain ⟨h1,h2⟩:=kY.mp q
   refine .inr ⟨z,br js L,by unfold br;rw [List.filter_cons_of_pos q];rfl,List.mem_cons_self ..,h1,h2,fun y hy _ _=>?_⟩
   rcases List.mem_cons.mp hy with rfl | hy
   ·exact Int.le_refl _
   ·exact hd.1 y hy
  | false=>
   have e:br js (z::L)=br js L:=by unfold br;rw [List.filter_cons_of_neg (by rw [q];exact Bool.false_ne_true)]
   have hz:0 < z.2->[z.1]=js:=fun h1=>Classical.byContradiction fun h2=>by
    have:=kY.mpr ⟨h1,h2⟩
    rw [q] at this;cases this
   rcases ih hd.2 with ⟨h1,h2⟩ | ⟨x,rest,h1,h2,h3,h4,h5⟩
   ·refine .inl ⟨e.trans h1,fun x hx hp=>?_⟩
    rcases List.mem_cons.mp hx with rfl | hx
    ·exact hz hp
    ·exact h2 x hx hp
   ·refine .inr ⟨x,rest,e.trans h1,List.mem_cons_of_mem _ h2,h3,h4,fun y hy hp hn=>?_⟩
    rcases List.mem_cons.mp hy with rfl | hy
    ·exact absurd (hz hp) hn
    ·exact h5 y hy hp hn
theorem fU.step {A:List Int}{D:Int}{s:KV×List Int}(I:fU A D s) {L:KV}(hp:L.Perm s.1) (hd:gY L):fU A D (fv L s)/\((jA s/\fv L s=s)∨(fv L s).2.length=s.2.length+1):=by
 rcases mX (js:=bA s.2) hd with ⟨h1,h2⟩ | ⟨x,rest,h1,h2,h3,h4,h5⟩
 ·have e:fv L s=s:=by unfold fv;rw [h1];exact Prod.ext rfl (List.append_nil _)
  rw [e]
  exact ⟨I,.inl ⟨fun x hx=>h2 x (hp.mem_iff.mpr hx),rfl⟩⟩
 ·have hx:=hp.mem_iff.mp h2
  have hk:x.1∈s.1.map (·.1):=List.mem_map_of_mem hx
  have e:fv L s=(s.1.map (cu x.1),s.2++[x.1]):=by
   unfold fv
   rw [h1]
   show (iw s.1 x.1,s.2++[x.1])=_
   unfold iw
   rw [gA I.nd hk]
  rw [e]
  have S1:=jr I.nd hk
  refine ⟨⟨?_,?_,?_,I.d0,?_,?_⟩,.inr (by simp)⟩
  ·rw [c7];exact I.nd
  ·intro y' hC
   obtain ⟨y,hy,rfl⟩:=List.mem_map.mp hC
   unfold cu
   dsimp only
   split
   ·rename_i e1
    have:=jX I.nd hy hx e1
    subst this
    lia
   ·exact I.nn y hy
  ·show ((s.2++[x.1])++ai (s.1.map (cu x.1))).Perm A
   rw [List.append_assoc]
   refine (List.Perm.append_left _ ?_).trans I.pm
   exact jz I.nd hk fun y hy e1=>by rw [jX I.nd hy hx e1];exact h3
  ·intro y' hC
   obtain ⟨y,hy,rfl⟩:=List.mem_map.mp hC
   show vL (aM (s.1.map (cu x.1))) (bA (s.2++[x.1])) (cu x.1 y)<=D
   rw [S1,kZ]
   have l1:=I.le y hy
   have d0:=I.d0
   unfold vL at l1 ⊢
   unfold cu
   dsimp only
   by_cases e1:y.1=x.1
   ·have:=jX I.nd hy hx e1
    subst this
    rw [if_neg h4] at l1
    rw [if_pos rfl,if_pos rfl]
    lia
   ·rw [if_neg (by simpa using e1),if_neg e1]
    by_cases e2:[y.1]=bA s.2
    ·rw [if_pos e2] at l1
     lia
    ·have h0:=I.nn y hy
     have hS:=oY I.nn hx hy (Ne.symm e1)
     by_cases e3:0 < y.2
     ·have:=h5 y (hp.mem_iff.mpr hy) e3 e2
      lia
     ·lia
  ·rcases I.eq with h | ⟨y,hy,e0⟩
   ·exact .inl h
   ·by_cases hD:D=0
    ·exact .inl hD
    ·refine .inr ⟨cu x.1 y,List.mem_map_of_mem hy,?_⟩
     show vL (aM (s.1.map (cu x.1))) (bA (s.2++[x.1])) (cu x.1 y)=D
     rw [S1,kZ]
     have d0:=I.d0
     unfold vL at e0 ⊢
     unfold cu
     dsimp only
     by_cases e1:y.1=x.1
     ·have:=jX I.nd hy hx e1
      subst this
      rw [if_neg h4] at e0
      rw [if_pos rfl,if_pos rfl]
      lia
     ·rw [if_neg (by simpa using e1),if_neg e1]
      by_cases e2:[y.1]=bA s.2
      ·rw [if_pos e2] at e0
       lia
      ·rw [if_neg e2] at e0
       have h0:=I.nn y hy
       have hS:=oY I.nn hx hy (Ne.symm e1)
       by_cases e3:0 < y.2
       ·have:=h5 y (hp.mem_iff.mpr hy) e3 e2
        lia
       ·lia
theorem fU.run {A:List Int}{D:Int}{n:Nat}{s s':KV×List Int}(h:i4 n s s'):fU A D s->fU A D s'/\(jA s'∨s'.2.length=s.2.length+n):=by
 induction h with
 | z s=>exact fun I=>⟨I,.inr rfl⟩
 | @s n s s' L hp hd h ih=>
  intro I
  obtain ⟨I1,c⟩:=I.step hp hd
  obtain ⟨I2,c2⟩:=ih I1
  refine ⟨I2,?_⟩
  rcases c with ⟨hs,e⟩ | c
  ·rw [e] at h
   have st:∀ {n s s'},i4 n s s'->jA s->jA s':=by
    intro n s s' h
    induction h with
    | z s=>exact id
    | @s n s s' L hp hd h ih=>
     intro hs
     refine ih ?_
     rcases mX (js:=bA s.2) hd with ⟨h1,h2⟩ | ⟨x,rest,h1,h2,h3,h4,h5⟩
     ·have e:fv L s=s:=by unfold fv;rw [h1];exact Prod.ext rfl (List.append_nil _)
      rw [e];exact hs
     ·exact absurd (hs x (hp.mem_iff.mp h2) h3) h4
   exact .inl (st h hs)
  ·rcases c2 with c2 | c2
   ·exact .inl c2
   ·exact .inr (by rw [c2,c];lia)
theorem fU.left {A:List Int}{D:Int}{s:KV×List Int}(I:fU A D s) (hs:jA s∨s.2.length=A.length):ai s.1=(List.replicate D.toNat (bA s.2)).flatten:=by
 have bZ:=I.pm.length_eq
 rw [List.length_append] at bZ
 have eS:=e9 I.nn
 have hs:jA s:=by
  rcases hs with h | h
  ·exact h
  ·intro x hx h0
   have:=gT I.nn hx
   lia
 have ul:∀ k∈ai s.1,[k]=bA s.2:=by
  intro k hk
  obtain ⟨x,hx,hm⟩:=List.mem_flatMap.mp hk
  obtain ⟨h1,rfl⟩:=List.mem_replicate.mp hm
  exact hs x hx (by lia)
 have hD:D=aM s.1:=by
  have d0:=I.d0
  by_cases hz:aM s.1=0
  ·rcases I.eq with h | ⟨x,hx,e⟩
   ·lia
   ·have h1:=gT I.nn hx
    have h2:=I.nn x hx
    unfold vL at e
    split at e<;>lia
  ·have KD:(0:Int)<=aM s.1:=by rw [<- eS];exact Int.natCast_nonneg _
   have Ew:0 < aM s.1:=by lia
   -- one kind has all
   have hx:∃ x∈s.1,0 < x.2:=by
    refine Classical.byContradiction fun hn=>hz ?_
    have e:ai s.1=[]:=by
     refine List.eq_nil_iff_forall_not_mem.mpr fun k hk=>?_
     obtain ⟨x,hx,hm⟩:=List.mem_flatMap.mp hk
     exact hn ⟨x,hx,by have:=(List.mem_replicate.mp hm).1;lia⟩
    rw [<- eS,e];rfl
   obtain ⟨x,hx,h0⟩:=hx
   have um:∀ y∈s.1,y.1≠x.1->y.2=0:=fun y hy bx=>by
    have h1:=I.nn y hy
    refine Classical.byContradiction fun h2=>bx ?_
    have e1:=hs y hy (by lia)
    have e2:=hs x hx h0
    exact List.cons.inj (e1.trans e2.symm)|>.1
   have KE:=vU I.nd um hx
   have l1:=I.le x hx
   unfold vL at l1
   rw [if_pos (hs x hx h0)] at l1
   rcases I.eq with h | ⟨y,hy,e⟩
   ·lia
   ·unfold vL at e
    by_cases ey:y.1=x.1
    ·have:=jX I.nd hy hx ey
     subst this
     rw [if_pos (hs y hy h0)] at e
     lia
    ·have:=um y hy ey
     split at e<;>lia
 have hn:(ai s.1).length=D.toNat:=by lia
 rw [<- hn]
 clear hn bZ eS hD
 generalize ai s.1=E at ul
 induction E with
 | nil=>rfl
 | cons k E ih=>
  rw [List.length_cons,List.replicate_succ,List.flatten_cons,<- ul k (List.mem_cons_self ..),List.singleton_append]
  rw [ul k (List.mem_cons_self ..)]
  exact congrArg (k::·) (ih fun k hk=>ul k (List.mem_cons_of_mem _ hk))
structure iH (A:List Int) (D:Int) (s:KV×List Int):Prop where
 gd:Good s.1
 pm:(s.2++ai s.1).Perm A
 lo:aM s.1 % 2<=D
 le:∀ x∈s.1,2 * x.2 - aM s.1<=D
 eq:D=aM s.1 % 2∨∃ x∈s.1,2 * x.2 - aM s.1=D
theorem s5 (r:KV):ai (r.filter fun x=>decide (0 < x.2))=ai r:=by
 induction r with
 | nil=>rfl
 | cons x r ih=>
  by_cases h:0 < x.2
  ·rw [List.filter_cons_of_pos (by simpa using h),bt,bt,ih]
  ·rw [List.filter_cons_of_neg (by simpa using h),bt,ih,show x.2.toNat=0 by lia]
   rfl
theorem s6 {a b:KV}(h:a.Perm b):aM a=aM b:=by
 induction h with
 | nil=>rfl
 | cons x _ ih=>rw [aT,aT,ih]
 | swap x y l=>rw [aT,aT,aT,aT];lia
 | trans _ _ h1 h2=>exact h1.trans h2
theorem zS {k0 k1:Int}(bx:k0≠k1) (x:Int×Int):i5 k0 k1 x=cu k1 (cu k0 x):=by
 unfold i5 cu
 dsimp only
 congr 1
 by_cases e0:x.1=k0
 ·rw [if_pos (.inl e0),if_pos e0,if_neg fun e=>bx (e0.symm.trans e)]
 ·by_cases e1:x.1=k1
  ·rw [if_pos (.inr e1),if_neg e0,if_pos e1]
  ·rw [if_neg (fun z=>z.elim e0 e1),if_neg e0,if_neg e1]
theorem iH.step {A:List Int}{D:Int}{s:KV×List Int}(I:iH A D s) {k0 c0 k1 c1:Int}{rest:KV}(hp:((k0,c0)::(k1,c1)::rest).Perm s.1) (hd:gY ((k0,c0)::(k1,c1)::rest)):
  iH A D (cL (cU s.1 [(k0,1),(k1,1)]),s.2++[k0,k1]):=by
 have m0:(k0,c0)∈s.1:=hp.mem_iff.mp (List.mem_cons_self ..)
 have m1:(k1,c1)∈s.1:=hp.mem_iff.mp (List.mem_cons_of_mem _ (List.mem_cons_self ..))
 have h0:k0∈s.1.map (·.1):=List.mem_map_of_mem m0
 have h1:k1∈s.1.map (·.1):=List.mem_map_of_mem m1
 have Ct:(((k0,c0)::(k1,c1)::rest).map (·.1)).Nodup:=(hp.map (·.1)).nodup_iff.mpr I.gd.nd
 have bx:k0≠k1:=by
  rw [List.map_cons,List.nodup_cons] at Ct
  exact fun e=>Ct.1 (e▸List.mem_cons_self ..)
 have nn:∀ x∈s.1,0<=x.2:=fun x hx=>Int.le_of_lt (I.gd.pos x hx)
 obtain ⟨g1,g2,_⟩:=I.gd.strike h0 h1 bx
 have p0:=I.gd.pos _ m0
 have p1:=I.gd.pos _ m1
 have S3:aM s.1=c0+(c1+aM rest):=by rw [<- s6 hp,aT,aT]
 have pr:∀ x∈rest,0<=x.2:=fun x hx=>nn x (hp.mem_iff.mp (List.mem_cons_of_mem _ (List.mem_cons_of_mem _ hx)))
 have z0:0<=aM rest:=by rw [<- e9 pr];exact Int.natCast_nonneg _
 rw [gY,List.pairwise_cons] at hd
 have d1:c1<=c0:=hd.1 _ (List.mem_cons_self ..)
 have d2:∀ y∈rest,y.2<=c1:=fun y hy=>(List.pairwise_cons.mp hd.2).1 y hy
 have lo:=I.lo
 dsimp only at p0 p1
 refine ⟨g1,?_,?_,?_,?_⟩
 ·show ((s.2++[k0,k1])++ai (cL (cU s.1 [(k0,1),(k1,1)]))).Perm A
  rw [List.append_assoc]
  refine (List.Perm.append_left _ ?_).trans I.pm
  rw [gR I.gd.nd h0 h1 bx,s5,List.map_congr_left fun x _=>zS bx x,<- Function.comp_def,<- List.map_map]
  refine (List.Perm.cons _ (jz (by rw [c7];exact I.gd.nd) (by rw [c7];exact h1) fun x' r6 e=>?_)).trans (jz I.gd.nd h0 fun x hx _=>I.gd.pos x hx)
  obtain ⟨x,hx,rfl⟩:=List.mem_map.mp r6
  have e:x.1=k1:=e
  show 0 < (if x.1=k0 then x.2 - 1 else x.2)
  rw [if_neg fun e'=>bx (e'.symm.trans e)]
  exact I.gd.pos x hx
 ·show aM (cL (cU s.1 [(k0,1),(k1,1)])) % 2<=D
  rw [g2];lia
 ·intro y' hC
  show 2 * y'.2 - aM (cL (cU s.1 [(k0,1),(k1,1)]))<=D
  rw [g2]
  have hC:y'∈cL (cU s.1 [(k0,1),(k1,1)]):=hC
  rw [gR I.gd.nd h0 h1 bx] at hC
  obtain ⟨y,hy,rfl⟩:=List.mem_map.mp (List.mem_filter.mp hC).1
  have l1:=I.le y hy
  unfold i5
  dsimp only
  by_cases e:y.1=k0∨y.1=k1
  ·rw [if_pos e];lia
  ·rw [if_neg e]
   have Ie:y∈rest:=by
    rcases List.mem_cons.mp (hp.mem_iff.mpr hy) with e' | hC
    ·exact absurd (.inl (congrArg Prod.fst e')) e
    ·rcases List.mem_cons.mp hC with e' | hC
     ·exact absurd (.inr (congrArg Prod.fst e')) e
     ·exact hC
   have a1:=d2 y Ie
   have a2:=gT pr Ie
   have a3:=I.gd.pos y hy
   lia
 ·rcases I.eq with h | ⟨y,hy,e⟩
  ·exact .inl (by show D=aM (cL (cU s.1 [(k0,1),(k1,1)])) % 2;rw [g2];lia)
  ·by_cases hD:D=aM s.1 % 2
   ·exact .inl (by show D=aM (cL (cU s.1 [(k0,1),(k1,1)])) % 2;rw [g2];lia)
   ·have J4:y=(k0,c0):=by
     rcases List.mem_cons.mp (hp.mem_iff.mpr hy) with e' | hC
     ·exact e'
     ·have:y.2<=c0:=hd.1 y hC
      have:=oY nn m0 hy (fun e'=>by
       rw [List.map_cons,List.nodup_cons] at Ct
       exact Ct.1 (e'▸List.mem_map_of_mem hC))
      dsimp only at this
      lia
    subst J4
    dsimp only at e
    refine .inr ⟨(k0,c0 - 1),?_,?_⟩
    ·show (k0,c0 - 1)∈cL (cU s.1 [(k0,1),(k1,1)])
     rw [gR I.gd.nd h0 h1 bx]
     refine List.mem_filter.mpr ⟨List.mem_map.mpr ⟨(k0,c0),m0,?_⟩,decide_eq_true ?_⟩
     ·unfold i5
      dsimp only
      rw [if_pos (.inl rfl)]
     ·show 0 < c0 - 1
      lia
    ·show 2 * (c0 - 1) - aM (cL (cU s.1 [(k0,1),(k1,1)]))=D
     rw [g2];lia
theorem iH.run {A:List Int}{D:Int}{s s':KV×List Int}(h:SRun s s'):iH A D s->iH A D s'/\s'.1.length<=1:=by
 induction h with
 | z h=>exact fun I=>⟨I,h⟩
 | s h2 k0 c0 k1 c1 rest hp hd h ih=>exact fun I=>ih (I.step hp hd)
theorem iH.left {A:List Int}{D:Int}{s:KV×List Int}(I:iH A D s) (h:s.1.length<=1):((ai s.1).length:Int)=D:=by
 rw [e9 fun x hx=>Int.le_of_lt (I.gd.pos x hx)]
 have lo:=I.lo
 have le:=I.le
 have eq:=I.eq
 have gp:=I.gd.pos
 clear I
 rcases hs:s.1 with _ | ⟨x,_ | ⟨y,r⟩⟩
 ·rw [hs] at eq
  rcases eq with e | ⟨x,hx,_⟩
  ·exact e.symm
  ·cases hx
 ·have e0:aM [x]=x.2:=by rw [aT];exact Int.add_zero _
  rw [hs,e0] at le eq lo
  rw [e0]
  rw [hs] at gp
  have p:=gp x (List.mem_cons_self ..)
  have l1:=le x (List.mem_cons_self ..)
  rcases eq with e | ⟨y,hy,e⟩
  ·lia
  ·obtain rfl:=List.mem_singleton.mp hy
   lia
 ·rw [hs] at h
  exact absurd h (by simp)
theorem zT {r:KV}(h:Good r) (k:Int):Good (bq r k)/\(∀ z,z∈(bq r k).map (·.1)->z=k∨z∈r.map (·.1))/\(ai (bq r k)).Perm (k::ai r):=by
 unfold bq
 induction r with
 | nil=>
  refine ⟨⟨by show [k].Nodup;simp,fun x hx=>?_⟩,fun z hz=>.inl (List.mem_singleton.mp hz),?_⟩
  ·rw [List.mem_singleton.mp hx];show (0:Int) < 0+1;decide
  ·exact List.Perm.refl _
 | cons y r ih=>
  have nd:=h.nd
  rw [List.map_cons,List.nodup_cons] at nd
  have hr:Good r:=⟨nd.2,fun x hx=>h.pos x (List.mem_cons_of_mem _ hx)⟩
  have py:=h.pos y (List.mem_cons_self ..)
  by_cases e:y.1=k
  ·have ec:ct (y::r) k=y.2:=e▸iN h.nd (List.mem_cons_self ..)
   have ep:putL (y::r) k (ct (y::r) k+1)=(y.1,y.2+1)::r:=by
    show (if y.1=k then (y.1,ct (y::r) k+1)::r else _)=_
    rw [if_pos e,ec]
   rw [ep]
   refine ⟨⟨by rw [List.map_cons,List.nodup_cons];exact nd,fun x hx=>?_⟩,fun z hz=>.inr hz,?_⟩
   ·rcases List.mem_cons.mp hx with rfl | hx
    ·show 0 < y.2+1;lia
    ·exact hr.pos x hx
   ·rw [bt,bt,<- List.cons_append,<- e,<- List.replicate_succ]
    show (List.replicate (y.2+1).toNat y.1++_).Perm _
    rw [show (y.2+1).toNat=y.2.toNat+1 by lia]
  ·have ec:ct (y::r) k=ct r k:=by
    unfold ct
    show (if y.1=k then some y.2 else lk r k).getD 0=_
    rw [if_neg e]
   have ep:putL (y::r) k (ct (y::r) k+1)=y::putL r k (ct r k+1):=by
    rw [ec]
    show (if y.1=k then _ else _)=_
    rw [if_neg e]
   rw [ep]
   obtain ⟨i1,i2,i3⟩:=ih hr
   refine ⟨⟨?_,fun x hx=>?_⟩,fun z hz=>?_,?_⟩
   ·rw [List.map_cons,List.nodup_cons]
    exact ⟨fun hm=>(i2 _ hm).elim e nd.1,i1.nd⟩
   ·rcases List.mem_cons.mp hx with rfl | hx
    ·exact py
    ·exact i1.pos x hx
   ·rw [List.map_cons,List.mem_cons] at hz ⊢
    rcases hz with hz | hz
    ·exact .inr (.inl hz)
    ·exact (i2 z hz).imp_right .inr
   ·rw [bt,bt]
    exact (List.Perm.append_left _ i3).trans List.perm_middle
theorem mY:∀ (A:List Int) {r:KV}{P:List Int},Good r->(ai r).Perm P->Good (A.foldl bq r)/\(ai (A.foldl bq r)).Perm (A++P)
 | [],_,_,h,p=>⟨h,p⟩
 | k::A,r,P,h,p=>by
  obtain ⟨h1,_,h3⟩:=zT h k
  obtain ⟨g1,g2⟩:=mY A (r:=bq r k) (P:=k::P) h1 (h3.trans (p.cons _))
  exact ⟨g1,g2.trans List.perm_middle⟩
theorem nX:Good []:=⟨List.Pairwise.nil,fun _ hx=>nomatch hx⟩
theorem un:∀ (B:List Int) {l:List Int},l.Nodup->(∀ x∈l,x∈B)->l.length<=B.length
 | [],l,_,h=>by
  cases l with
  | nil=>exact Nat.le_refl _
  | cons x l=>exact nomatch h x (List.mem_cons_self ..)
 | b::B,l,nd,h=>by
  have:=un B (l:=l.erase b) (nd.erase b) fun x hx=>by
   rw [nd.mem_erase_iff] at hx
   exact (List.mem_cons.mp (h x hx.2)).resolve_left hx.1
  rw [List.length_erase] at this
  rw [List.length_cons]
  split at this<;>lia
theorem vV {r:KV}(h:Good r) {x:Int×Int}(hx:x∈r):((ai r).count x.1:Int)=x.2:=by
 have EB:∀ (r:KV),(∀ y∈r,y.1≠x.1)->(ai r).count x.1=0:=by
  intro r hr
  refine List.count_eq_zero.mpr fun hm=>?_
  obtain ⟨y,hy,hm⟩:=List.mem_flatMap.mp hm
  exact hr y hy (List.mem_replicate.mp hm).2.symm
 induction r with
 | nil=>cases hx
 | cons y r ih=>
  have nd:=h.nd
  rw [List.map_cons,List.nodup_cons] at nd
  rw [bt,List.count_append,Int.natCast_add]
  rcases List.mem_cons.mp hx with e | hm
  ·subst e
   rw [EB r fun z hz e=>nd.1 (e▸List.mem_map_of_mem hz),List.count_replicate_self]
   have:=h.pos x (List.mem_cons_self ..)
   lia
  ·rw [ih ⟨nd.2,fun z hz=>h.pos z (List.mem_cons_of_mem _ hz)⟩ hm,List.count_replicate,if_neg (by simpa using fun e:y.1=x.1=>nd.1 (e▸List.mem_map_of_mem hm))]
   exact Int.zero_add _
structure d8 (A:List Int):Prop where
 two:2<=A.length
 le:A.length<=65
 dig:∀ k∈A,k∈([0,1,2,3,4]:List Int)
 pos:0∈A
section
variable {A:List Int}(h:d8 A)
include h
theorem d8.good:Good (A.foldl bq []):=(mY A nX (List.Perm.refl [])).1
theorem d8.perm:(ai (A.foldl bq [])).Perm A:=by
 have:=(mY A nX (List.Perm.refl [])).2
 rwa [List.append_nil] at this
theorem d8.sum:aM (A.foldl bq [])=A.length:=by
 rw [<- e9 fun x hx=>Int.le_of_lt (h.good.pos x hx),h.perm.length_eq]
theorem d8.key {x:Int×Int}(hx:x∈A.foldl bq []):x.1∈A:=by
 refine h.perm.mem_iff.mp (List.mem_flatMap.mpr ⟨x,hx,List.mem_replicate.mpr ⟨?_,rfl⟩⟩)
 have:=h.good.pos x hx
 lia
theorem d8.len:(A.foldl bq []).length<=5:=by
 have:=un [0,1,2,3,4] h.good.nd fun k hk=>by
  obtain ⟨x,hx,rfl⟩:=List.mem_map.mp hk
  exact h.dig _ (h.key hx)
 rwa [List.length_map] at this
theorem d8.len0:0 < (A.foldl bq []).length:=by
 cases q:A.foldl bq [] with
 | nil=>
  have:=h.sum
  rw [q] at this
  have t:=h.two
  have:(0:Int)=A.length:=this
  lia
 | cons x r=>exact Nat.succ_pos _
theorem d8.cnt {x:Int×Int}(hx:x∈A.foldl bq []):x.2=A.count x.1:=by rw [<- vV h.good hx,h.perm.count_eq]
theorem d8.most_le {x:Int×Int}(hx:x∈A.foldl bq []):x.2<=bo A:=by
 rw [h.cnt hx]
 have:=h.dig _ (h.key hx)
 unfold bo
 have up:∀ a b c:Int,c<=a->c<=max a b:=fun a b c h=>Int.le_trans h (Int.le_max_left _ _)
 simp only [List.mem_cons,List.not_mem_nil,or_false] at this
 rcases this with e | e | e | e | e<;>rw [e]
 ·exact up _ _ _ (up _ _ _ (up _ _ _ (Int.le_max_left _ _)))
 ·exact up _ _ _ (up _ _ _ (up _ _ _ (Int.le_max_right _ _)))
 ·exact up _ _ _ (up _ _ _ (Int.le_max_right _ _))
 ·exact up _ _ _ (Int.le_max_right _ _)
 ·exact Int.le_max_right _ _
theorem d8.most_at:∃ x∈A.foldl bq [],x.2=bo A:=by
 have at_:∀ k:Int,0 < A.count k->∃ x∈A.foldl bq [],x.2=A.count k:=fun k hk=>by
  obtain ⟨x,hx,hm⟩:=List.mem_flatMap.mp (h.perm.mem_iff.mpr (List.count_pos_iff.mp hk))
  obtain rfl:=(List.mem_replicate.mp hm).2
  exact ⟨x,hx,h.cnt hx⟩
 have p0:0 < A.count 0:=List.count_pos_iff.mpr h.pos
 have c:∃ k:Int,0 < A.count k/\(A.count k:Int)=bo A:=by
  have fin:∀ k:Int,bo A=(A.count k:Int)->∃ k:Int,0 < A.count k/\(A.count k:Int)=bo A:=fun k e=>by
   have hM:(A.count 0:Int)<=bo A:=Int.le_trans (Int.le_max_left _ _) (Int.le_trans (Int.le_max_left _ _) (Int.le_trans (Int.le_max_left _ _) (Int.le_max_left _ _)))
   exact ⟨k,by lia,e.symm⟩
  have m:=fun a b:Int=>(show max a b=a∨max a b=b by lia)
  rcases m (max (max (max (A.count 0:Int) (A.count 1)) (A.count 2)) (A.count 3)) (A.count 4) with e4 | e4
  ·rcases m (max (max (A.count 0:Int) (A.count 1)) (A.count 2)) (A.count 3) with e3 | e3
   ·rcases m (max (A.count 0:Int) (A.count 1)) (A.count 2) with e2 | e2
    ·rcases m (A.count 0:Int) (A.count 1) with e1 | e1
     ·exact fin 0 (e4.trans (e3.trans (e2.trans e1)))
     ·exact fin 1 (e4.trans (e3.trans (e2.trans e1)))
    ·exact fin 2 (e4.trans (e3.trans e2))
   ·exact fin 3 (e4.trans e3)
  ·exact fin 4 e4
 obtain ⟨k,h1,h2⟩:=c
 rw [<- h2]
 exact at_ k h1
theorem d8.line:fU A (max 0 (2 * bo A - A.length - 1)) (A.foldl bq [],[]):=by
 have no:∀ x:Int×Int,vL (aM (A.foldl bq [])) (bA []) x=2 * x.2 - A.length - 1:=fun x=>by
  unfold vL
  rw [if_neg (show ¬ [x.1]=bA [] from fun e=>nomatch (show [x.1]=[] from e)),h.sum]
 refine ⟨h.good.nd,fun x hx=>Int.le_of_lt (h.good.pos x hx),h.perm,by lia,fun x hx=>?_,?_⟩
 ·show vL (aM (A.foldl bq [])) (bA []) x<=_
  rw [no]
  have:=h.most_le hx
  lia
 ·obtain ⟨x,hx,e⟩:=h.most_at
  by_cases hz:2 * bo A - A.length - 1<=0
  ·exact .inl (by lia)
  ·refine .inr ⟨x,hx,?_⟩
   show vL (aM (A.foldl bq [])) (bA []) x=_
   rw [no,e]
   lia
theorem d8.strike:iH A (max ((A.length:Int).fmod 2) (2 * bo A - A.length)) (A.foldl bq [],[]):=by
 have em:(A.length:Int).fmod 2=(A.length:Int) % 2:=Int.fmod_eq_emod_of_nonneg _ (by decide)
 refine ⟨h.good,h.perm,?_,fun x hx=>?_,?_⟩
 ·show aM (A.foldl bq []) % 2<=_
  rw [h.sum,em]
  lia
 ·show 2 * x.2 - aM (A.foldl bq [])<=_
  have:=h.most_le hx
  rw [h.sum]
  lia
 ·obtain ⟨x,hx,e⟩:=h.most_at
  by_cases hz:2 * bo A - A.length<=(A.length:Int) % 2
  ·refine .inl ?_
   show _=aM (A.foldl bq []) % 2
   rw [h.sum,em]
   lia
  ·refine .inr ⟨x,hx,?_⟩
   show 2 * x.2 - aM (A.foldl bq [])=_
   rw [h.sum,e,em]
   lia
end
section
variable {M:Int}{a da e0 ep fe j k0 k1 k2 k3 k4 k5 k6 le lf li tM tN tk:Nat}{es:Array DictEntry}{fs ls ys:Array Value}{g:Array GenState}{h:Heap}{p:Pos}{r:KV}
theorem mZ {a b:List Int}(h:a.Perm b):(a.mergeSort fun a b=>decide (a<=b))=b.mergeSort fun a b=>decide (a<=b):=by
 refine mW ((List.mergeSort_perm a _).trans h) ?_
 have:=List.pairwise_mergeSort (le:=fun a b:Int=>decide (a<=b)) (fun a b c h1 h2=>by simp at *;lia) (fun a b=>by simp;lia) a
 exact this.imp fun h=>by simpa using h
theorem zU (b:Bool):lu true b=!b:=rfl
theorem Fq (b:Bool):lu false b=b:=rfl
theorem ae.rep {js:List Int}(h:ae ys js) (n:Nat):ae (List.replicate n ys.toList).flatten.toArray (List.replicate n js).flatten:=by
 unfold ae at *
 dsimp only
 induction n with
 | zero=>rfl
 | succ n ih=>rw [List.replicate_succ,List.replicate_succ,List.flatten_cons,List.flatten_cons,List.map_append,List.map_append,h,ih]
theorem nY (h:∀ x∈r,0<=x.2) (hz:(ai r).length<=65):∀ p∈r,0<=p.2/\p.2<=999999:=fun p hp=>by
 have h1:=gT h hp
 have h2:=e9 h
 exact ⟨h p hp,by lia⟩
section
variable {d:Drawn}{os:OsState}{w:World}{b1 b2:Bool}{V:Heap}{l se te t:Nat}{cF xs:Array Value}{A:List Int}{Q:Flow->Pos->Shared->Prop}{X:Value->Pos->Shared->Prop}{p4:Pos}
noncomputable def k7 (w:World) (b1 b2:Bool) (d:Drawn) (os:OsState) (V:Heap) (l se:Nat) (cF:Array Value) (Q:Flow->Pos->Shared->Prop):Prop:=
 ∀ ns c j p h g tk,AllBare g->Rep (E2 (W2 w b1 b2)) V 3 [(1113,ad cF se),(l+1109,ns),(l+1110,c)] (j+1109) h->Q (.ret (.bool true)) p ⟨h,g,d,tk,os⟩
theorem Ig (hA:d8 A) (hX:ae xs A) {q0 q3 q4:Value}{LA FA:List Int}{ss:bl}(hM:M=bo A)
  (hL:ae ls LA) (hF:ae fs FA) (hp:(LA++FA).Perm A) (hl:(FA.length:Int)=max ((A.length:Int).fmod 2) (2 * bo A - A.length)) (hg:AllBare g)
  (rep:Rep (Ad w b1 b2) V 3 ((1113,ad cF se)::(l+1109,aj #[A9 w b1 b2 k0 q0,Ai w b1 b2 aq k1 (.int (Int.ofNat xs.size) tN),AH w b1 b2 bI k2 M tM,aa (W2 w b1 b2) bL k3 q3,Ai w b1 b2 bX k4 q4,A0 w b1 b2 cP k5 lf,A0 w b1 b2 a7 k6 li] e0 ss)::(l+1110,ck (Aa t))::(t+1109,ad xs te)::(li+1109,ad ls le)::(lf+1109,ad fs fe)::[]) (j+1109) h)
  (nx:k7 w b1 b2 d os V l se cF Q):wp (AK w b1 b2) (dm (W2 w b1 b2) l p4) (execs (aC (W2 w b1 b2) 10 1++[]) (bJ (W2 w b1 b2) l)) Q X p ⟨h,g,d,tk,os⟩:=by
 have hs:=hp.length_eq
 have hz:=hA.le
 have e1:=hX.size
 have e2:=hL.size
 have e3:=hF.size
 rw [List.length_append] at hs
 refine ew hg rep ?_
 refine Well.sub [1,2,3,4,5] rfl (by decide) rfl fun h1 cm=>?_
 refine Ic (r:=max ((Int.ofNat xs.size).fmod 2) (2 * M - Int.ofNat xs.size)) hX (hL.app hF) (by lia) rfl (by lia) (by rw [List.length_append];lia) hz ?_ ?_ p (Nat.le_refl _) fun x3 _ x7 _ x8 _ p1 h2 g2 ag ac=>?_
 ·rw [beq_iff_eq,e3,e1,hM]
  exact hl
 ·rw [Fq]
  exact decide_eq_true (mZ hp)
 ·intro p2
  have r:=cm.join' [1,2,3,4,5] (by decide) rfl ac rfl
  exact nx _ _ _ p2 h2 g2 _ ag (r.pick [0,1,2] 3 (by decide) (by decide) (Nat.le_refl _) rfl)
theorem J5 {q0 q4 q5:Value}{LA:List Int}{ss:bl}(hA:d8 A) (hX:ae xs A) (hM:M=bo A) (hL:ae ls LA) (hT:Tells es r) (I:iH A (max ((A.length:Int).fmod 2) (2 * bo A - A.length)) (r,LA)) (h1:r.length<=1) (hg:AllBare g)
  (rep:Rep (Ad w b1 b2) V 3 ((1113,ad cF se)::(l+1109,aj #[A9 w b1 b2 k0 q0,Ai w b1 b2 aq k1 (.int (Int.ofNat xs.size) tN),AH w b1 b2 bI k2 M tM,At w b1 b2 k3 a,Ai w b1 b2 bX k4 q4,Ai w b1 b2 cP k5 q5,A0 w b1 b2 a7 k6 li] e0 ss)::(l+1110,ck (Aa t))::(t+1109,ad xs te)::(li+1109,ad ls le)::(da+1109,aA)::(a+1109,Ac da es ep)::[]) (j+1109) h)
  (nx:k7 w b1 b2 d os V l se cF Q):wp (AK w b1 b2) (dm (W2 w b1 b2) l p4) (execs (aC (W2 w b1 b2) 9 1++(aC (W2 w b1 b2) 10 1++[])) (bJ (W2 w b1 b2) l)) Q X p ⟨h,g,d,tk,os⟩:=by
 have hp:=I.pm.length_eq
 rw [List.length_append] at hp
 have hz:=hA.le
 have hs:(ai r).length<=65:=by
  have hp:LA.length+(ai r).length=A.length:=hp
  lia
 refine ew hg rep ?_
 refine Well.sub [1,5,6] rfl (by decide) rfl fun zV cm=>?_
 refine HR hT (nY (fun x hx=>Int.le_of_lt (I.gd.pos x hx)) hs) (by lia) p (Nat.le_refl _) fun x1 _ p1 h2 g2 ag ac=>?_
 intro p2
 have r:=(cm.join' [1,5,6] (by decide) rfl ac rfl).pick [0,1,2,3,4,7] 3 (by decide) (by decide) (Nat.le_refl _) rfl
 exact Ig hA hX hM hL x1.hI I.pm (I.left h1) ag r nx
theorem J6 {q0 q3 q4 q5:Value}{ss:bl}(hA:d8 A) (hX:ae xs A) (hM:M=bo A) (hg:AllBare g)
  (rep:Rep (Ad w b1 b2) V 3 ((1113,ad cF se)::(l+1109,aj #[A9 w b1 b2 k0 q0,Ai w b1 b2 aq k1 (.int (Int.ofNat xs.size) tN),AH w b1 b2 bI k2 M tM,aa (W2 w b1 b2) bL k3 q3,Ai w b1 b2 bX k4 q4,Ai w b1 b2 cP k5 q5] e0 ss)::(l+1110,ck (Aa t))::(t+1109,ad xs te)::[]) (j+1109) h)
  (nx:k7 w b1 b2 d os V l se cF Q):wp (AK w b1 b2) (dm (W2 w b1 b2) l p4) (execs (aC (W2 w b1 b2) 7 2++(aC (W2 w b1 b2) 9 1++(aC (W2 w b1 b2) 10 1++[]))) (bJ (W2 w b1 b2) l)) Q X p ⟨h,g,d,tk,os⟩:=by
 have hz:=hA.le
 have h5:=hA.len
 refine ew hg rep ?_
 refine Well.sub [1,2,3] rfl (by decide) rfl fun zV cm=>?_
 refine J2 hX (cG (by lia)) (by lia) hA.good (by rw [hA.sum];lia) (beq_false_of_ne fun e=>by have e:j+1+1109=1:=e;lia) p (Nat.le_refl _) fun x1 _ x2 _ p1 h2 g2 ag ac=>?_
 intro p2
 have r:=(cm.join' [1,2,3] (by decide) rfl ac rfl).pick [0,1,2,3,6,4,5] 3 (by decide) (by decide) (Nat.le_refl _) rfl
 obtain ⟨I,hl⟩:=iH.run x2.hR hA.strike
 exact J5 hA hX hM x2.hI x2.hT I hl ag r nx
theorem J7 {q0 q3:Value}{LA FA:List Int}{ss:bl}(hA:d8 A) (hX:ae xs A) (hM:M=bo A) (hL:ae ls LA) (hF:ae fs FA) (hp:(LA++FA).Perm A) (hD:FA=(List.replicate (max 0 (2 * bo A - A.length - 1)).toNat (bA LA)).flatten) (hg:AllBare g)
  (rep:Rep (Ad w b1 b2) V 3 ((1113,ad cF se)::(l+1109,aj #[A9 w b1 b2 k0 q0,Ai w b1 b2 aq k1 (.int (Int.ofNat xs.size) tN),AH w b1 b2 bI k2 M tM,aa (W2 w b1 b2) bL k3 q3,A0 w b1 b2 bX k4 li,A0 w b1 b2 cP k5 lf] e0 ss)::(l+1110,ck (Aa t))::(t+1109,ad xs te)::(li+1109,ad ls le)::(lf+1109,ad fs fe)::[]) (j+1109) h)
  (nx:k7 w b1 b2 d os V l se cF Q):wp (AK w b1 b2) (dm (W2 w b1 b2) l p4) (execs (aC (W2 w b1 b2) 6 1++(aC (W2 w b1 b2) 7 2++(aC (W2 w b1 b2) 9 1++(aC (W2 w b1 b2) 10 1++[])))) (bJ (W2 w b1 b2) l)) Q X p ⟨h,g,d,tk,os⟩:=by
 have hz:=hA.le
 have hs:=hp.length_eq
 rw [List.length_append] at hs
 have e1:=hX.size
 have e2:=hL.size
 have e3:=hF.size
 have hy:ae (ls.toList.drop (ls.size - 1)).toArray (bA LA):=by
  unfold bA
  rw [<- e2]
  exact hL.drop _
 have er:max 0 (2 * M - Int.ofNat xs.size - 1)=max 0 (2 * bo A - A.length - 1):=by rw [e1,hM];rfl
 have KF:bo A<=A.length:=by
  obtain ⟨x,hx,e⟩:=hA.most_at
  have:=gT (fun y hy=>Int.le_of_lt (hA.good.pos y hy)) hx
  rw [hA.sum] at this
  lia
 refine ew hg rep ?_
 refine Well.sub [1,2,3,4,5] rfl (by decide) rfl fun zV cm=>?_
 refine J1 (r:=max 0 (2 * bo A - A.length - 1)) hX hL hF (by rw [hD];exact hy.rep _) (hL.app hF) (kR ls) (by lia) er ?_ (by lia) (by lia) rfl (by lia) (by rw [List.length_append];lia) hz ?_ ?_ p (Nat.le_refl _) fun x3 _ x7 _ x8 _ p1 h2 g2 ag ac=>?_
 ·rw [List.size_toArray,List.length_drop,Array.length_toList]
  lia
 ·rw [zU,decide_eq_true rfl]
  rfl
 ·rw [zU,decide_eq_true (mZ hp)]
  rfl
 ·intro p2
  exact J6 hA hX hM ag ((cm.join' [1,2,3,4,5] (by decide) rfl ac rfl).pick [0,1,2,3] 3 (by decide) (by decide) (Nat.le_refl _) rfl) nx
theorem J8 {q0:Value}{LA:List Int}{ss:bl}(hA:d8 A) (hX:ae xs A) (hM:M=bo A) (hL:ae ls LA) (hT:Tells es r) (I:fU A (max 0 (2 * bo A - A.length - 1)) (r,LA)) (hS:jA (r,LA)∨LA.length=A.length) (hg:AllBare g)
  (rep:Rep (Ad w b1 b2) V 3 ((1113,ad cF se)::(l+1109,aj #[A9 w b1 b2 k0 q0,Ai w b1 b2 aq k1 (.int (Int.ofNat xs.size) tN),AH w b1 b2 bI k2 M tM,At w b1 b2 k3 a,A0 w b1 b2 bX k4 li] e0 ss)::(l+1110,ck (Aa t))::(t+1109,ad xs te)::(li+1109,ad ls le)::(da+1109,aA)::(a+1109,Ac da es ep)::[]) (j+1109) h)
  (nx:k7 w b1 b2 d os V l se cF Q):wp (AK w b1 b2) (dm (W2 w b1 b2) l p4) (execs (aC (W2 w b1 b2) 5 1++(aC (W2 w b1 b2) 6 1++(aC (W2 w b1 b2) 7 2++(aC (W2 w b1 b2) 9 1++(aC (W2 w b1 b2) 10 1++[]))))) (bJ (W2 w b1 b2) l)) Q X p ⟨h,g,d,tk,os⟩:=by
 have hp:=I.pm.length_eq
 rw [List.length_append] at hp
 have hz:=hA.le
 have hs:(ai r).length<=65:=by
  have hp:LA.length+(ai r).length=A.length:=hp
  lia
 refine ew hg rep ?_
 refine Well.sub [1,5,6] rfl (by decide) rfl fun zV cm=>?_
 refine HQ hT (nY I.nn hs) (by lia) p (Nat.le_refl _) fun x1 _ p1 h2 g2 ag ac=>?_
 intro p2
 have r:=(cm.join' [1,5,6] (by decide) rfl ac rfl).pick [0,1,2,3,4,7] 3 (by decide) (by decide) (Nat.le_refl _) rfl
 exact J7 hA hX hM hL x1.hI I.pm (I.left hS) ag r nx
theorem J9 (hA:d8 A) (hX:ae xs A) (hM:M=bo A) (hg:AllBare g)
  (rep:Rep (Ad w b1 b2) V 3 ((1113,ad cF se)::(l+1109,aL [A4 w b1 b2 k0,Ai w b1 b2 aq k1 (.int (Int.ofNat xs.size) tN),AH w b1 b2 bI k2 M tM] e0)::(l+1110,ck (Aa t))::(t+1109,ad xs te)::[]) (j+1109) h)
  (nx:k7 w b1 b2 d os V l se cF Q):wp (AK w b1 b2) (dm (W2 w b1 b2) l p4) (execs (aC (W2 w b1 b2) 3 2++(aC (W2 w b1 b2) 5 1++(aC (W2 w b1 b2) 6 1++(aC (W2 w b1 b2) 7 2++(aC (W2 w b1 b2) 9 1++(aC (W2 w b1 b2) 10 1++[])))))) (bJ (W2 w b1 b2) l)) Q X p ⟨h,g,d,tk,os⟩:=by
 have hz:=hA.le
 have h5:=hA.len
 have e1:=hX.size
 refine ew hg rep ?_
 refine Well.sub [1,2,3] rfl (by decide) rfl fun zV cm=>?_
 refine JQ (N:=Int.ofNat xs.size) hX (cG (by lia)) (by lia) hA.len0 (Int.natCast_nonneg _) (by rw [e1];show (A.length:Int)<=800;lia) p (Nat.le_refl _) fun x1 _ x2 _ p1 h2 g2 ag ac=>?_
 intro p2
 have r:=(cm.join' [1,2,3] (by decide) rfl ac rfl).pick [0,1,2,3,6,4,5] 3 (by decide) (by decide) (Nat.le_refl _) rfl
 obtain ⟨I,hl⟩:=fU.run x2.hR hA.line
 exact J8 hA hX hM x2.hI x2.hT I (hl.imp_right fun e=>e.trans (by rw [e1];exact Nat.zero_add _)) ag r nx
theorem Ka (hA:d8 A) (hX:ae xs A) (hg:AllBare g)
  (rep:Rep (Ad w b1 b2) V 3 ((1113,ad cF se)::(l+1109,aL [A4 w b1 b2 k0] e0)::(l+1110,ck (Aa t))::(t+1109,ad xs te)::[]) (j+1109) h)
  (nx:k7 w b1 b2 d os V l se cF Q):wp (AK w b1 b2) (dm (W2 w b1 b2) l p4) (execs (aC (W2 w b1 b2) 1 2++(aC (W2 w b1 b2) 3 2++(aC (W2 w b1 b2) 5 1++(aC (W2 w b1 b2) 6 1++(aC (W2 w b1 b2) 7 2++(aC (W2 w b1 b2) 9 1++(aC (W2 w b1 b2) 10 1++[]))))))) (bJ (W2 w b1 b2) l)) Q X p ⟨h,g,d,tk,os⟩:=by
 have hz:=hA.le
 have e1:=hX.size
 refine ew hg rep ?_
 refine Well.sub [1,2,3] rfl (by decide) rfl fun zV cm=>?_
 refine JP hX (by lia) p (Nat.le_refl _) fun x9 _ p1 h2 g2 ag ac=>?_
 intro p2
 exact J9 hA hX rfl ag (cm.join' [1,2,3] (by decide) rfl ac rfl) nx
end
end
theorem zW {ls:vM}(bZ:ls.length<=63):d8 ([0,0]++f6 ls):=by
 have hm:(f6 ls).length=ls.length:=List.length_map _
 refine ⟨by rw [List.length_append];exact Nat.le_add_right 2 _,by rw [List.length_append,hm];show 2+ls.length<=65;lia,fun k hk=>?_,List.mem_cons_self ..⟩
 rcases List.mem_append.mp hk with hk | hk
 ·simp only [List.mem_cons,List.not_mem_nil,or_false,or_self] at hk ⊢
  exact .inl hk
 ·obtain ⟨x,_,rfl⟩:=List.mem_map.mp hk
  rw [Int.fmod_eq_emod_of_nonneg _ (by decide)]
  simp only [List.mem_cons,List.not_mem_nil,or_false]
  lia
theorem s7 {w:World}{b1 b2:Bool}:bU (fdOf (W2 w b1 b2) 1112)=aC (W2 w b1 b2) 0 1++(aC (W2 w b1 b2) 1 2++(aC (W2 w b1 b2) 3 2++(aC (W2 w b1 b2) 5 1++(aC (W2 w b1 b2) 6 1++(aC (W2 w b1 b2) 7 2++(aC (W2 w b1 b2) 9 1++(aC (W2 w b1 b2) 10 1++[]))))))):=by kernel_rfl
section
variable {d:Drawn}{os:OsState}{w:World}{b1 b2:Bool}
theorem Kb {V:Heap}{B:List Stmt}(hB:bU (fdOf (W2 w b1 b2) 1112)=B) (ls:vM) (bZ:ls.length<=63) {Q:Flow->Pos->Shared->Prop}{X:Value->Pos->Shared->Prop}{p p4:Pos}{j tk l se k0 e0:Nat}{h:Heap}{g:Array GenState}(hg:AllBare g)
  (rep:Rep (Ad w b1 b2) V 3 [(1113,ad (ls.map dV).toArray se),(l+1109,aL [A4 w b1 b2 k0] e0),(l+1110,uh)] (j+1109) h)
  (nx:k7 w b1 b2 d os V l se (ls.map dV).toArray Q):wp (AK w b1 b2) ⟨fn (B,bJ (W2 w b1 b2) l),none,none,[(CC,p4)],none⟩ (execs B (bJ (W2 w b1 b2) l)) Q X p ⟨h,g,d,tk,os⟩:=by
 subst hB
 rw [show execs (bU (fdOf (W2 w b1 b2) 1112))=_ from congrArg execs s7]
 refine (ew (Γ:=dm (W2 w b1 b2) l p4) hg rep ?_:_)
 have gb:∀ x:vN (f6 ls),2+x.xs.size<=1000:=fun x=>by
  rw [x.hI.size]
  have hm:(f6 ls).length=ls.length:=List.length_map _
  lia
 have fin:∀ (x:vN (f6 ls)) p2 h2 g2,AllBare g2->Rep (E2 (W2 w b1 b2)) V 3 [(1113,ad (ls.map dV).toArray se),(l+1109,aL [aa (W2 w b1 b2) dD k0 (.ref 1113)] e0),(l+1110,ck (.ref (x.j+1109))),(x.j+1109,ad (#[.int 0 tk,.int 0 (tk+1)]++x.xs) 0)] (x.j+1+1109) h2->
   wp (Mo (E2 (W2 w b1 b2))) (dm (W2 w b1 b2) l p4) (execs (aC (W2 w b1 b2) 1 2++(aC (W2 w b1 b2) 3 2++(aC (W2 w b1 b2) 5 1++(aC (W2 w b1 b2) 6 1++(aC (W2 w b1 b2) 7 2++(aC (W2 w b1 b2) 9 1++(aC (W2 w b1 b2) 10 1++[]))))))) (bJ (W2 w b1 b2) l)) Q X p2 ⟨h2,g2,d,x.tk,os⟩:=fun x p2 h2 g2 ag ac=>
  Ka (zW bZ) (ae.app (xs:=#[.int 0 tk,.int 0 (tk+1)]) (ks:=[0,0]) (show List.map a9 _=_ from rfl) x.hI) ag ac nx
 cases hb:ls.isEmpty with
 | true=>exact HX bZ hb gb p (Nat.le_refl _) fun x _ p2 h2 g2 ag ac=>fun p3=>fin x p3 h2 g2 ag ac
 | false=>exact HY bZ hb gb p (Nat.le_refl _) fun x _ p2 h2 g2 ag ac=>fun p3=>fin x p3 h2 g2 ag ac
structure Kc where
 ns:Obj
 c1:Obj
 j:Nat
 tk:Nat
noncomputable def Fs (l se k1 e0:Nat) (ls:vM) (bZ:ls.length<=63) (is:List Nat) (nd:is.Nodup) (hl:3=is.length):ay (E2 (W2 w b1 b2)) d os:=
 ay.sub Kc ⟨aA,aA,0,0⟩ (fn (bU (fdOf (W2 w b1 b2) 1112),bJ (W2 w b1 b2) l)) [] is [(1113,ad (ls.map dV).toArray se),(l+1109,aL [aa (W2 w b1 b2) dD k1 (.ref 1113)] e0),(l+1110,uh)]
  nd hl (fun _=>.ret (.bool true)) (fun x=>[(1113,ad (ls.map dV).toArray se),(l+1109,x.ns),(l+1110,x.c1)]) (fun x=>x.j+1109) (fun x=>x.tk) (fun _=>True) (fun x=>by rw [<- hl];rfl) (by
   intro Γ h g p n tk Q aF hc hg hr k
   refine FV aF hc fun p4=>?_
   obtain ⟨j,rfl⟩:=bY (i:=1) hr rfl
   refine rI (env:=bJ (W2 w b1 b2) l) rfl ?_
   generalize hb:bU (fdOf (W2 w b1 b2) 1112)=B
   exact Kb hb ls bZ hg (hl▸hr) fun ns c1 j p h g tk hg rep=>k ⟨ns,c1,j,tk⟩ trivial h g hg (hl▸rep))
end
theorem Ii {d:Drawn}{os:OsState}{w:World}{b1 b2:Bool}{j tk:Nat}{se:Nat}{ls:vM}(bZ:ls.length<=63):
  Qb b1 b2 d os fun b1 b2=>⟨Ad w b1 b2,1,ur,im (nm [108,97,119]) [.ref 1113],[(1113,ad (ls.map dV).toArray se)],j+1109,tk,.c (Fs j se tk 1 ls bZ [0,1,2] (by decide) rfl) fun x1=>.e (.e (.done (.ret (.bool true))) [AI ls se] ((x1.j)+1109) ((x1.4)))⟩:=ee 75 [0,0,0,0,2,2,0,1] [[]] [] (by kernel_rfl)
section
open PySem PySem.W PySem.W.X PySem.Calls PyProof.Rows
theorem rq {l:OpenLaw}{q:Program}{jj:List Str}{Yf:Shared->Heap×Nat}{Ya:World->Heap×Nat}{N:Nat}{d:DefRec}{rP:List (Str×Expr)}
  (left:LeftO l.prog q jj (fun _=>true) Yf Ya N) (hw:l.writes=false) (k1:l.row.wellSaid=true)
  (zX:defOf q l.name=some (d,rP)) (hp:l.prog.theDef l.name=some (d.params,d.body,d.scope)) (hk:kwWritten? d.params.kwonlyargs d.params.kw_defaults=some rP)
  (ok:(chainsOk q&&opensWell l.prog&&(frees l.row.toRowW&&l.row.within.isEmpty))=true) (hb:l.prog.bare) (nl:l.row.toRowW.promised)
  (call:∀ (w:World) (s₀ cg:Shared) (args:List WData) (vs:List Value) (as:List Addr),Yf s₀=Ya w->l.row.claim.pre args=true->WData.layableAll args=true->Laid [] w s₀ cg args vs as->
   wp (model l.prog w) ur (im l.name vs) (finPost (model l.prog w) ur (lQ cg)) (fun e _ s'=>lQ cg (.error e) s') default cg):l.row.Holds:=by
 refine ⟨k1,nl,?_⟩
 obtain ⟨ok,k5⟩:=Bool.and_eq_true_iff.mp ok
 obtain ⟨Kd,o1⟩:=Bool.and_eq_true_iff.mp ok
 obtain ⟨k5,k6⟩:=Bool.and_eq_true_iff.mp k5
 obtain ⟨Ft,hu,ha,Fu,hm⟩:=frees_parts k5
 have hi:=ident_freeW hu ha Fu
 have B:=fun w=>left.behind (XP:=fun _ _=>True) (fun _ _=>trivial) Kd w
 refine ⟨⟨hb,o1,rfl⟩,nl.witness,fun w=>⟨(B w).1,fun s' ca=>?_⟩⟩
 obtain ⟨s₀,hf,Ke,s,hT,hz,oZ,hg,G,y⟩:=(B w).2 s' ca
 have oZ:s.gens=#[]:=Array.eq_empty_of_size_eq_zero (beq_iff_eq.mp oZ)
 refine ⟨s₀,hf,Ke,s,hT,fun n hn=>?_,fun x hx=>(nomatch hx),fun x hx=>(nomatch hx),?_⟩
 ·obtain rfl:n=l.name:=by simpa [OpenLaw.row] using hn
  exact pinned_of_view hg G zX hp hk
 intro args gU nw ord Dh
 obtain ⟨⟨vs,cg⟩,m5⟩:=Option.isSome_iff_exists.mp (layAllW_isSome (P:=w.params) (ord:=ord) G.has args l.row.args s (pre_splitW gU).1)
 have keeps:=layAllW_keeps _ _ _ m5
 have oG:=layAllW_rest _ _ _ m5
 obtain ⟨as,Ds,Kf,Ij⟩:=reads_layAllW Dh _ _ _ m5 nw cg.heap (fun _ _ e=>e)
 have L:Laid [] w s cg args vs as:=⟨⟨ord,Dh,m5⟩,Ds,Kf,Ij,keeps,oG.1.trans oZ,oG.2.2.1⟩
 have c:=call w s cg args vs as y gU nw L
 obtain ⟨k,r,σ,Ik,Cu,Il,Kg,hR⟩:=wp_halts_full (M:=model l.prog w) (R:=lQ cg) (Shared.asleep_of_life oG.2.2.2 hz)
  (Sem.wp_mono _ _ _ (fun fin p s' h'=>finPost_mono (fun r s' g=>⟨g,leftWithCleanup_false_of_bare g.bare⟩) h') (fun e p s' h'=>⟨h',leftWithCleanup_false_of_bare h'.bare⟩) _ _ c)
 obtain ⟨eh,_,_,eo,_⟩:=Shared.forget_eq Kg
 have g:GoodWG l.row.claim (classAt s.heap) (ExcName.means s.heap) args cg r σ:=
  ⟨.inl ⟨.bool true,.bool true,[],hR.val,fun _=>rfl,.bool _,by with_unfolding_all rfl,fun _=>⟨List.nodup_nil,fun a ha=>(nomatch ha)⟩⟩,hR.old,hR.os,hR.bare⟩
 have z:=g.laid (w:=w) (s₀:=s) (vs:=vs) (as:=as) Ft (List.isEmpty_iff.mp k6) hi L
 have Fv:=z.1.congr eh
 have Fw:Ik.heap.life=s.heap.life:=(runN_life _ _ _ Il).trans oG.2.2.2
 refine ⟨vs,cg,m5,k,_,Ik,Cu,?_,(fun _ i x hx=>by rw [oZ] at hx;simp at hx),fun q=>(by rw [show l.writes=true from q] at hw;cases hw),by rw [Fw],Shared.rest_eq (eo.trans z.2.1)⟩
 rcases Fv with ⟨v,e,d1,d2,d3,d4,d5⟩ | ⟨e,ob,cls,e',d1,d2,d3,d4,d5⟩
 ·exact .inl ⟨v,by rw [e];rfl,d1,d2,d3,fun b o y _=>d4 b o y,d5⟩
 ·exact .inr ⟨e,ob,cls,by rw [e'];rfl,d1,d2,d3,d4,fun b o y _=>d5 b o y⟩
theorem zY {l:OpenLaw}{q:Program}{jj:List Str}{Yf:Shared->Heap×Nat}{Ya:World->Heap×Nat}{N:Nat}{d:DefRec}{rP:List (Str×Expr)}{T:Params->BT}{n0 tk0:Nat}{life:Life}{mu:List Nat}{mo:Params->Mm}
  (left:LeftO l.prog q jj (fun _=>true) Yf Ya N) (hw:l.writes=false) (k1:l.row.wellSaid=true)
  (zX:defOf q l.name=some (d,rP)) (hp:l.prog.theDef l.name=some (d.params,d.body,d.scope)) (hk:kwWritten? d.params.kwonlyargs d.params.kw_defaults=some rP)
  (ok:(chainsOk q&&opensWell l.prog&&(frees l.row.toRowW&&l.row.within.isEmpty))=true) (hb:l.prog.bare) (nl:l.row.toRowW.promised)
  (hm:l.most=some 63) (Dr:l.bound=none) (hY:∀ s w,Yf s=Ya w->s.heap=absHeap (T w.params) n0 life/\s.toks=tk0) (wd:sysModules < n0)
  (hT:∀ P a,n0<=a->(T P).get a=none) (Fx:∀ P a o,(T P).get a=some o->o.isFreed=false)
  (Im:∀ P x,x∈mo P->(T P).get x.1=some x.2/\g8 x.1 mu=true) (Fu:∀ P,n7 (n0::(mo P).map (·.1))=true)
  (go:∀ (w:World) (cF:List (Int×Tok)) (h:Heap) (dr:Drawn) (tk:Nat) (os:OsState),cF.length<=63->tk0<=tk->(∀ a o,(T w.params).get a=some o->h.get? a=some o)->h.get? n0=some (fg (cF.map dV))->
   Well ⟨l.prog,w,T w.params,mu,AllBare,true,none,v9⟩ h (mo w.params).length.succ (rE h os) dr os ⟨ur,default,[],im l.name [.ref n0],(n0,fg (cF.map dV))::mo w.params,n0+1,tk⟩):l.row.Holds:=by
 refine rq left hw k1 zX hp hk ok hb nl fun w s₀ cg args vs as y gU nw L=>?_
 obtain ⟨hh,Kh⟩:=hY s₀ w y
 have ax:s₀.heap.objs.size=n0:=by rw [hh,absHeap_size]
 obtain ⟨cF,bZ,o6,vj,qJ,Io⟩:=pq hm Dr gU nw L (by rw [ax];exact wd)
 rw [ax] at o6 vj qJ
 have base:∀ a o,(T w.params).get a=some o->cg.heap.get? a=some o:=fun a o e=>by
  refine L.keeps a o ?_
  have:s₀.heap.objs[a]?=some o:=by
   rw [hh,absHeap_at,e]
   by_cases h:a < n0
   ·rw [if_pos h];rfl
   ·rw [hT _ a (by lia)] at e;cases e
  unfold Heap.get?
  simp only [this]
  have f:=Fx _ _ _ e
  obtain ⟨c,d,dt,sl⟩:=o
  cases dt<;>first | rfl | cases f
 have ht:tk0<=cg.toks:=Kh▸Io
 have rep:Rep ⟨l.prog,w,T w.params,mu,AllBare,true,none,v9⟩ cg.heap (mo w.params).length.succ ((n0,fg (cF.map dV))::mo w.params) (n0+1) cg.heap:=by
  refine ⟨qJ,fun a o e _=>base a o e,fun i a o e=>?_,ny _ (Fu _),fun i a o e=>?_,fun b o e _=>e,by rw [qJ];exact Nat.le_refl _,fun i a o hi e=>?_,by rw [lR];exact Nat.le_refl _,fun a ha=>hT _ a (by lia)⟩
  ·rcases List.mem_cons.mp (gi _ _ _ e) with e | e
   ·cases e;exact vj
   ·exact base a o (Im _ _ e).1
  ·rcases List.mem_cons.mp (gi _ _ _ e) with e | e
   ·cases e;exact .inr (hT _ _ (Nat.le_refl _))
   ·exact .inl (Im _ _ e).2
  ·have:=dU _ _ _ e
   rw [lR] at this
   have e2:((n0,fg (cF.map dV))::mo w.params).length=(mo w.params).length.succ:=rfl
   lia
 have z:=go w cF cg.heap cg.drawn cg.toks cg.os bZ ht base vj cg.heap #[] (.of_eq rfl) rep
 subst o6
 have hg:cg.gens=#[]:=L.gens
 rw [cO] at z
 obtain ⟨h1,g1,d1,t1,o1⟩:=cg
 cases (show g1=#[] from hg)
 exact Sem.wp_mono _ _ _ (fun fin p s' h'=>finPost_mono (fun r s' g=>⟨g.val,g.old,g.os,g.bare⟩) h') (fun e p s' g=>⟨g.val,g.old,g.os,g.bare⟩) _ _ z
end
theorem o4 (f:Nat->Obj) (n:Nat):∀ (d a b i:Nat) (o:Obj),(tr f n d a b).get i=some o->b+a * i < n/\o=f (b+a * i)
 | 0,_,_,_,_,h=>nomatch h
 | d+1,a,b,i,o,h0=>by
  have h:(@Bool.rec (fun _=>BT) .nil (.node (f b) (tr f n d (2 * a) (a+b)) (tr f n d (2 * a) (2 * a+b))) (Nat.blt b n)).get i=some o:=h0
  clear h0
  cases q:Nat.blt b n with
  | false=>rw [q] at h;cases h
  | true=>
   rw [q] at h
   have hb:b < n:=by simpa [Nat.blt_eq] using q
   rw [BT.get_node] at h
   by_cases e:i=0
   ·rw [if_pos e] at h;subst e;exact ⟨by simpa using hb,by rw [<- Option.some.inj h];simp⟩
   ·rw [if_neg e] at h
    split at h
    ·next e1=>
     obtain ⟨h1,h2⟩:=o4 f n d _ _ _ _ h
     have e:a+b+2 * a * (i / 2)=b+a * i:=by
      obtain ⟨k,hk⟩:∃ k,i=2 * k+1:=⟨i / 2,by lia⟩
      have:i / 2=k:=by lia
      rw [this,hk,Nat.mul_add,Nat.mul_one,Nat.mul_comm 2 a,Nat.mul_assoc];lia
     rw [e] at h1 h2;exact ⟨h1,h2⟩
    ·next e1=>
     obtain ⟨h1,h2⟩:=o4 f n d _ _ _ _ h
     have e:2 * a+b+2 * a * (i / 2 - 1)=b+a * i:=by
      obtain ⟨k,hk⟩:∃ k,i=2 * k+2:=⟨i / 2 - 1,by lia⟩
      have:i / 2 - 1=k:=by lia
      rw [this,hk,Nat.mul_add,Nat.mul_comm 2 a,Nat.mul_assoc];lia
     rw [e] at h1 h2;exact ⟨h1,h2⟩
theorem rr {P:Params}{a:Nat}{o:Obj}(h:(qx P).get a=some o):a < 1113/\o=tZ P a:=by
 have z:=o4 (tZ P) 1113 12 1 0 a o h
 rw [Nat.zero_add,Nat.one_mul] at z
 exact z
noncomputable def allB (f:Nat->Bool):Nat->Bool:=@Nat.rec (fun _=>Bool) true fun k ih=>@Bool.rec (fun _=>Bool) false ih (f k)
theorem rt {f:Nat->Bool}:∀ {n:Nat},allB f n=true->∀ k,k < n->f k=true
 | 0,_,k,hk=>absurd hk (Nat.not_lt_zero _)
 | n+1,h,k,hk=>by
  have h:@Bool.rec (fun _=>Bool) false (allB f n) (f n)=true:=h
  cases q:f n with
  | false=>rw [q] at h;cases h
  | true=>
   rw [q] at h
   rcases Nat.lt_succ_iff_lt_or_eq.mp hk with hk | rfl
   ·exact rt h k hk
   ·exact q
theorem Fy (P:Params):allB (fun k=>!(tZ P k).isFreed) 1113=true:=by kernel_rfl
theorem Fz:PySem.Challenge.rw_dn0006_04.name=nm [108,97,119]:=by kernel_rfl
theorem Ip {w:World}{h h':Heap}{n:Nat}{sc:Obj}(hs:h.get? 1113=some sc) (r:Rep (E2 w) h 1 [(1113,sc)] n h'):OldK h h':=by
 have k:∀ b o,h.get? b=some o->h'.get? b=some o:=fun b o e=>by
  by_cases h8:b=1113
  ·subst h8
   rw [hs] at e;cases e
   exact r.own 0 _ _ rfl
  ·refine r.keep b o e fun i a o' hi q=>?_
   match i,hi,q with
   | 0,_,q=>cases q;exact fun x=>h8 x.symm
 exact ⟨fun b o e=>.inl (k b o e),fun b o e=>⟨o,k b o e⟩⟩
theorem Ki:PySem.Challenge.rw_dn0006_04.row.wellSaid=true:=by kernel_rfl
theorem Kj:PySem.Challenge.rw_dn0006_04.wellSaid=true:=by
 unfold OpenLaw.wellSaid
 rw [Ki]
 kernel_rfl
theorem Kk (w:World) (cF:List (Int×Tok)) (h:Heap) (dr:Drawn) (tk:Nat) (os:OsState) (bZ:cF.length<=63) (hs:h.get? 1113=some (fg (cF.map dV))):
  Well (E2 w) h 1 (rE h os) dr os ⟨ur,default,[],im (nm [108,97,119]) [.ref 1113],[(1113,fg (cF.map dV))],1114,tk⟩:=by
 generalize Do:w.params.followText "special-get-raises"=b1
 generalize Dp:w.params.followText "comprehension-iter-twice"=b2
 have hw:W2 w b1 b2=w:=by subst Do Dp;exact yB w
 have z:∀ v,v=W2 w b1 b2->Well (E2 v) h 1 (rE h os) dr os ⟨ur,default,[],im (nm [108,97,119]) [.ref 1113],[(1113,fg (cF.map dV))],1114,tk⟩:=by
  rintro v rfl
  intro h1 g1 Kl dK
  refine Ii (j:=5) (se:=0) (ls:=cF) bZ default (Nat.le_refl _) (fun x _ p h2 g2 ag rep=>?_) h1 g1 Kl dK
  exact ⟨rfl,Ip hs rep,rfl,ag⟩
 exact z w hw.symm

end Mine
open Mine
theorem PySem.Challenge.cw_dn0006_04_holds : PySem.Challenge.rw_dn0006_04.Holds := by
 w_on
 refine holds_law Kj fun Kq=>?_
 refine zY (T:=qx) (n0:=1113) (tk0:=1783) (life:=life) (mu:=[975]) (mo:=fun _=>[]) DI (by rfl) (by assumption) (by rfl) (by rfl) (by rfl) (by decide+kernel) ⟨rfl,rfl,rfl,rfl,rfl,by decide+kernel⟩ ?hw (by rfl) (by rfl) (fun s w e=>⟨congrArg Prod.fst e,congrArg Prod.snd e⟩) (by decide) ?h1 ?h2 (fun _ _ hx=>nomatch hx) (fun _=>rfl) ?go
 case hw=>w_witness2
 case h1=>
  intro P a ha
  cases q:(qx P).get a with
  | none=>rfl
  | some o=>exact absurd (rr q).1 (by lia)
 case h2=>
  intro P a o q
  obtain ⟨h1,rfl⟩:=rr q
  have:=rt (Fy P) a h1
  simpa using this
 case go=>
  intro w cF h dr tk os bZ _ base hs
  rw [Fz]
  exact Kk w cF h dr tk os bZ hs
