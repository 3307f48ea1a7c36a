/- A step. No condition. -/
import Derived.Test.YtollddkkdgoonaaGreatDoorM0
namespace Go.Proofs.YtollddkkdgoonaaGreatDoor
open Go
set_option linter.unusedVariables false
set_option linter.unusedSimpArgs false
set_option linter.defProp false
set_option maxRecDepth 100000
def Ps (P:Program):Prop:=∀ (f:FuncId) (fn:Func),P.funcs[f]? = some fn->fn.body.isSome=true->(fn.name == "runtime.NumGoroutine")=false
section
variable {P:Program} {w:World}
def Sz (hng:Ps P){f:FuncId}{args:Array Vz}(h:Ii P f=true):(callFunc f args).run P w=.ok (.enter f args) w:=by
 unfold Ii at h;split at h
 ·rename_i fn hf;have hn:=hng f fn hf h;have hb:fn.body.isNone=false:=by cases hb:fn.body<;>rw[hb] at h<;>first|rfl|cases h
  simp only[callFunc,Q0,run_program,L0,hf];simp only[hn,K3,if_false,hb,O1]
 ·cases h
def VN (hng:Ps P){f:FuncId}{args:Array Vz}{l:List Vz}{k:Kt}(hb:Ii P f=true)(hl:args=l.toArray)(h:Proofs.YtollddkkdgoonaaGreatDoor.Call P f l w.heap k):Ig P w k ((callFunc f args).run P w):=by
 rw[Sz hng hb,hl];exact⟨rfl,h w rfl⟩
def ADr (c:Go.Call)(e:Env):c.args.map (ev e)=(c.args.toList.map (ev e)).toArray:=by
 apply P4;simp
def JA {α:Type}{a:Array α}{l:List α}(h:a.toList=l):a=l.toArray:=by
 subst h;rfl
def AEG {c:Go.Call}{e:Env}{b:Builtin}{ty:Tj}{F:Array Bool}(hb:c.callee=.builtin b)(hF:F=c.args.map fun|.const _=>true|_=>false) :
  (do let d <-resolve (ev e) c ty;invoke d.target d.args).run P w=(builtin b c.argTypes ty F (c.args.toList.map (ev e)).toArray).run P w:=by
 unfold resolve;rw[hb,<-ADr,hF];rfl
def Ce {k:Kt}{s:Sem Vz}(h:∃ v,s.run P w=.ok v w/\k v w.heap):Ig P w k ((do pure (.value (<-s)):Sem Next).run P w):=by
 obtain⟨v,hr,hk⟩:=h;exact AHK hr hk
def EG {k:Kt}{s:Sem Vz}(h:∃ v w',s.run P w=.ok v w'/\Do w w'/\k v w'.heap):Ig P w k ((do pure (.value (<-s)):Sem Next).run P w):=by
 obtain⟨v,w',hr,hs,hk⟩:=h;exact AEI hr hs hk
def kb {k:Kt}{s:Sem Unit}(h:∃ w',s.run P w=.ok () w'/\Do w w'/\k undef w'.heap):Ig P w k ((do s;pure .skip:Sem Next).run P w):=by
 obtain⟨w',hr,hs,hk⟩:=h;exact AEH hr hs hk
def AG3 (hng:Ps P){c:Go.Call}{e:Env}{k:Kt}{dst:Option Tmp}{type:Tj}{pos:String}{after:Array Edge}{guard:Option (Nat×Bool)}
  (h:Lf P ⟨dst,.call c,type,pos,after,guard⟩ (ev e) w.heap k):Ig P w k ((execOp (ev e) ⟨dst,.call c,type,pos,after,guard⟩).run P w):=by
 obtain⟨callee,args,argTypes⟩:=c;unfold Lf at h;unfold execOp;dsimp only at h ⊢;have val:∀ f:Operand,((∃ n fst cap,ev e f=.func (.func n) fst cap/\Ii P n=true)/\qp P (ev e f) (args.toList.map (ev e)) w.heap k)->
   Ig P w k ((do let d <-resolve (ev e) ⟨.value f,args,argTypes⟩ type;invoke d.target d.args).run P w):=by
  rintro f ⟨⟨n,fst,cap,hv,hb⟩,n',fst',cap',hv',hk⟩;rw[hv] at hv';cases hv';have hr:(resolve (ev e) ⟨.value f,args,argTypes⟩ type).run P w=.ok {target:=.fn (.func n) cap,args:=fst++args.map (ev e)} w:=by
   unfold resolve;simp[Deferred.ofValue,hv]
  simp only[Q0,hr,L0,invoke];refine VN hng hb ?_ hk;apply P4;simp
 cases callee with
 | invoke r m=>exact h.elim
 | value f=>
  cases f with
  | func f=>
   dsimp only at h;cases hb:Ii P f with
   | false=>rw[hb] at h;exact h.elim
   | true=>
    rw[hb] at h;have hr:(resolve (ev e) ⟨.value (.func f),args,argTypes⟩ type).run P w=.ok {target:=.fn (.func f) #[],args:=args.map (ev e)} w:=by
     unfold resolve;simp[Deferred.ofValue,ev]
    simp only[Q0,hr,L0,invoke];exact VN hng hb (by apply P4;simp) h
  | tmp t=>exact val _ h
  | const v=>exact val _ h
  | global g=>exact val _ h
 | builtin b=>
  rw[AEG rfl rfl];dsimp only;cases b<;>dsimp only at h<;>(try (exact h.elim))
  case len=>
   split at h
   ·rename_i x t ha ht;rw[ha,JA ht];simp only[List.map,builtin];split at h
    ·rename_i hu;exact Ce (VT hu h)
    ·rename_i hu;exact Ce (VQ hu h)
    ·rename_i hu;exact Ce (VR hu h)
    ·exact h.elim
   ·exact h.elim
  case append=>
   split at h
   ·rename_i s x t u ha ht;rw[ha,JA ht];simp only[List.map,builtin];split at h
    ·rename_i he hu;exact EG (VO he hu h)
    ·rename_i d hni he hu;exact EG (Yx he hu hni h)
    ·exact h.elim
   ·exact h.elim
  case copy=>
   split at h
   ·rename_i s x t u ha ht;rw[ha,JA ht];simp only[List.map,builtin];split at h
    ·rename_i he;exact EG (AEL he h)
    ·exact h.elim
   ·exact h.elim
  case cap=>
   split at h
   ·rename_i x t ha ht;rw[ha,JA ht];simp only[List.map,builtin];split at h
    ·rename_i hu;exact Ce (VP hu h)
    ·exact h.elim
   ·exact h.elim
  case min=>
   split at h
   ·rename_i s x ha;rw[ha];simp only[List.map,builtin];exact Ce (kg h)
   ·exact h.elim
  case max=>
   split at h
   ·rename_i s x ha;rw[ha];simp only[List.map,builtin];exact Ce (kf h)
   ·exact h.elim
  case delete=>
   split at h
   ·rename_i s x t u ha ht;rw[ha,JA ht];simp only[List.map,builtin];obtain⟨w',hr,hs,hk⟩:=Yy (us:=u) h;exact EG ⟨_,w',hr,hs,hk⟩
   ·exact h.elim
set_option maxHeartbeats 2000000 in
def APb (hng:Ps P){o:Oper}{e:Env}{k:Kt}(h:Lf P o (ev e) w.heap k):Ig P w k ((execOp (ev e) o).run P w):=by
 obtain⟨dst,op,type,pos,after,guard⟩:=o;unfold Lf at h;cases op<;>dsimp only at h
 case move x=>exact⟨BX,h⟩
 case assign x=>exact⟨BX,h⟩
 case pick c a b=>
  unfold KU at h;unfold execOp;dsimp only;cases hc:ev e c<;>rw[hc] at h<;>(try (exact h.elim));rename_i t;simp only[asBool,Q0,O1,L0];refine⟨BX,?_⟩;cases t<;>exact h
 case alloc t=>
  unfold Ak at h;cases hz:Am P t with
  | none=>rw[hz] at h;exact h.elim
  | some z=>
   rw[hz] at h;refine EG ⟨_,{w with heap:=w.heap.push (.cells z.cells t)},?_,BX,jr h⟩;unfold Instr.alloc;simp only[Q0,CE hz,L0,Pb,O1]
 case box t x=>
  refine EG ⟨_,{w with heap:=w.heap.push (.cells (ev e x).cells t)},?_,BX,jr h⟩;unfold Instr.box;simp only[Q0,L0,Pb,O1]
 case build t parts=>
  split at h
  ·exact h.elim
  ·rename_i hne;obtain⟨v,hr,hk⟩:=Qy (w:=w) (fun hc=>hne hc) h;refine Ce ⟨v,?_,hk⟩;rw[<-hr];congr 2;apply P4;simp
 case buildSlice t n parts=>
  split at h
  ·rename_i el he;obtain⟨v,w',hr,hs,hk⟩:=PU he h;refine EG ⟨v,w',?_,hs,hk⟩;rw[<-hr];congr 2;apply P4;simp
  ·exact h.elim
 case load t a=>
  cases ho:GA P t with
  | false=>rw[ho] at h;exact h.elim
  | true=>
   rw[ho] at h;obtain⟨p,v,hp,hv,hk⟩:=h;refine Ce ⟨v,?_,hk⟩;unfold Instr.loadAt;rw[hp];simp only[Instr.sureAddr,pure_bind,Q0,O1,L0];exact JT ho hv
 case store t a x=>
  cases ho:GA P t with
  | false=>rw[ho] at h;exact h.elim
  | true=>
   rw[ho] at h;obtain⟨p,c,T,hp,hsp,hb,hv,hle,hone,hk⟩:=h;obtain⟨w',hr,hs,hh⟩:=TB (P:=P) ho hsp hb hv hle hone;refine kb ⟨w',?_,hs,by rw[hh];exact hk⟩;unfold Instr.storeAt;rw[hp];simp only[Instr.sureAddr,pure_bind,Q0,O1,L0];exact hr
 case nilCheck x=>exact Or rfl h.1 h.2
 case binOp op t x y u=>
  cases hst:Ke P t with
  | true=>
   rw[hst] at h;obtain⟨v,hv,hk⟩:=h;have hg:(eqGuard op t x y (ev e x) (ev e y)).run P w=.ok () w:=Em fun _=>by
    unfold DO at hv;split at hv
    ·rename_i h1 h2;refine⟨fun c hc=>?_,fun hc _=>?_⟩<;>(rw[h1] at hc;cases hc)
    ·rename_i h1 h2;refine⟨fun c hc=>?_,fun hc _=>?_⟩<;>(rw[h1] at hc;cases hc)
    ·cases hv
   refine Ce ⟨v,?_,hk⟩;simp only[Q0,hg,L0];exact KW hv
  | false=>
   rw[hst] at h;simp only[cond] at h;split at h
   ·rename_i neg hneg;obtain⟨r,hr,hk⟩:=h;have hg:(eqGuard op t x y (ev e x) (ev e y)).run P w=.ok () w:=JS hr;refine Ce ⟨_,?_,hk⟩;simp only[Q0,hg,L0];exact Ll hneg hr
   ·exact h.elim
 case unOp op t x=>
  obtain⟨v,hv,hk⟩:=h;exact Ce ⟨v,RB hv,hk⟩
 case convert s d x=>
  split at h
  ·rename_i ks kd hs hd;obtain⟨k',n,hx,hk⟩:=h;refine Ce ⟨_,?_,hk⟩;unfold convert;rw[hx];simp only[Q0,AZ hs,AZ hd,L0];rfl
  ·rename_i hs hd;obtain⟨⟨s',hx⟩,hk⟩:=h;refine Ce ⟨_,?_,hk⟩;unfold convert;rw[hx];simp only[Q0,AZ hs,AZ hd,L0];rfl
  ·rename_i el hs hd;split at h
   ·rename_i he;obtain⟨s',hx,v,w',hr,hsd,hk⟩:=AHM (P:=P) h;refine EG ⟨v,w',?_,hsd,hk⟩;unfold convert;rw[hx];simp only[Q0,AZ hs,AZ hd,AZ he,L0];exact hr
   ·exact h.elim
  ·rename_i el hs hd;split at h
   ·rename_i he;obtain⟨v,hv,hk⟩:=h;refine Ce ⟨v,?_,hk⟩;have hx:∃ a l c,ev e x=.slice a l c:=by
     unfold OE at hv;split at hv<;>first|exact⟨_,_,_,by assumption⟩|cases hv
    obtain⟨a,l,c,hx⟩:=hx;have hr:=ke (P:=P) hv;unfold convert;rw[hx] at hr ⊢;simp only[Q0,AZ hs,AZ hd,AZ he,L0];exact hr
   ·exact h.elim
  ·exact h.elim
 case makeInterface t x=>
  split at h
  ·exact h.elim
  ·rename_i d hni hd;refine Ce ⟨_,?_,h⟩;unfold Instr.makeInterface;simp only[Q0,AZ hd,L0];cases d<;>first|rfl|exact absurd hd (hni _)
  ·exact h.elim
 case makeFunc fn first captured=>exact Ce ⟨_,rfl,h⟩
 case makeMap t r=>
  cases r with
  | some _=>exact h.elim
  | none=>exact EG ⟨_,{w with heap:=w.heap.push (.map #[] 0)},rfl,BX,h _ _ FW (I0 _) GX⟩
 case makeSlice t l c=>
  split at h
  ·rename_i el he;exact EG (VU (LK he).1 h)
  ·exact h.elim
 case slice t x lo hi mx=>
  cases mx with
  | some _=>exact h.elim
  | none=>
   obtain⟨v,hv,hk⟩:=h;exact Ce ⟨v,RA hv,hk⟩
 case fieldAddr t x f=>
  split at h
  ·rename_i off ho;obtain⟨p,hp,hk⟩:=h;refine Ce ⟨_,?_,hk⟩;rw[hp];exact NA ho
  ·exact h.elim
 case field t x f=>
  split at h
  ·rename_i fs hu;split at h
   ·rename_i fd hf;cases ho:GA P fd.type with
    | false=>rw[ho] at h;exact h.elim
    | true=>rw[ho] at h;exact Ce (PW hu hf ho h)
   ·exact h.elim
  ·exact h.elim
 case indexAddr t x i=>exact Ce (NB h)
 case index t x i=>
  split at h
  ·rename_i hu;exact Ce (PZ hu h)
  ·rename_i n el hu;cases ho:GA P el with
   | false=>rw[ho] at h;exact h.elim
   | true=>rw[ho] at h;exact Ce (PY hu ho h)
  ·exact h.elim
 case lookup t x i ok=>
  split at h
  ·rename_i el he;exact Ce (Pa he h)
  ·exact h.elim
 case mapUpdate t m i v=>exact kb (QC h)
 case range t x=>
  split at h
  ·rename_i kt el hu;exact EG (py hu h)
  ·exact h.elim
 case next x s=>
  cases s with
  | true=>exact h.elim
  | false=>exact EG (AEM h)
 case entry x=>exact Ce (Qz h)
 case typeAssert x xt t ok=>
  split at h
  ·exact h.elim
  ·rename_i d hni hd;exact Ce (Lo hd hni h)
  ·exact h.elim
 case extract x i=>exact Ce (Mz h)
 case call c=>exact AG3 hng h
 all_goals exact h.elim
end
def AE9 (P:Program)(w:World)(k:Kt)(s:Sem Next):Prop:=∃ v,s.run P w=.ok (.value v) w/\k v w.heap
section
variable {P:Program} {w:World}
def CB {k:Kt}{s:Sem Vz}(h:∃ v,s.run P w=.ok v w/\k v w.heap):AE9 P w k (do pure (.value (<-s))):=by
 obtain⟨v,hr,hk⟩:=h;refine⟨v,?_,hk⟩;simp only[Q0,hr,L0,O1]
def oe {c:Go.Call}{e:Env}{k:Kt}{dst:Option Tmp}{type:Tj}{pos:String}{after:Array Edge}{guard:Option (Nat×Bool)}
  (hc:calmB P ⟨dst,.call c,type,pos,after,guard⟩=true) (h:Lf P ⟨dst,.call c,type,pos,after,guard⟩ (ev e) w.heap k):AE9 P w k (execOp (ev e) ⟨dst,.call c,type,pos,after,guard⟩):=by
 obtain⟨callee,args,argTypes⟩:=c;unfold Lf at h;unfold execOp;dsimp only at h ⊢;cases callee with
 | invoke r m=>exact h.elim
 | value f=>cases hc
 | builtin b=>
  unfold AE9;rw[AEG rfl rfl];dsimp only;cases b<;>(try (cases hc;done))<;>dsimp only at h
  case len=>
   split at h
   ·rename_i x t ha ht;rw[ha,JA ht];simp only[List.map,builtin];split at h
    ·rename_i hu;exact CB (VT hu h)
    ·rename_i hu;exact CB (VQ hu h)
    ·rename_i hu;exact CB (VR hu h)
    ·exact h.elim
   ·exact h.elim
  case cap=>
   split at h
   ·rename_i x t ha ht;rw[ha,JA ht];simp only[List.map,builtin];split at h
    ·rename_i hu;exact CB (VP hu h)
    ·exact h.elim
   ·exact h.elim
  case min=>
   split at h
   ·rename_i s x ha;rw[ha];simp only[List.map,builtin];exact CB (kg h)
   ·exact h.elim
  case max=>
   split at h
   ·rename_i s x ha;rw[ha];simp only[List.map,builtin];exact CB (kf h)
   ·exact h.elim
set_option maxHeartbeats 2000000 in
def AFM {o:Oper}{e:Env}{k:Kt}(hc:calmB P o=true)(h:Lf P o (ev e) w.heap k):AE9 P w k (execOp (ev e) o):=by
 obtain⟨dst,op,type,pos,after,guard⟩:=o;unfold Lf at h;cases op<;>dsimp only at h
 case move x=>exact⟨_,rfl,h⟩
 case pick c a b=>
  unfold KU at h;unfold execOp;dsimp only;cases hc:ev e c<;>rw[hc] at h<;>(try (exact h.elim));rename_i t;simp only[asBool,pure_bind];refine⟨_,rfl,?_⟩;cases t<;>exact h
 case build t parts=>
  split at h
  ·exact h.elim
  ·rename_i hne;obtain⟨v,hr,hk⟩:=Qy (w:=w) (fun hc=>hne hc) h;refine CB ⟨v,?_,hk⟩;rw[<-hr];congr 2;apply P4;simp
 case load t a=>
  cases ho:GA P t with
  | false=>rw[ho] at h;exact h.elim
  | true=>
   rw[ho] at h;obtain⟨p,v,hp,hv,hk⟩:=h;refine CB ⟨v,?_,hk⟩;unfold Instr.loadAt;rw[hp];simp only[Instr.sureAddr,pure_bind,Q0,O1,L0];exact JT ho hv
 case nilCheck x=>
  obtain⟨h1,h2⟩:=h;unfold execOp;dsimp only;generalize ev e x=y at *;unfold Qf at h1;split at h1
  ·exact⟨_,rfl,h2⟩
  ·exact⟨_,rfl,h2⟩
  ·cases h1
 case binOp op t x y u=>
  cases hst:Ke P t with
  | true=>
   rw[hst] at h;obtain⟨v,hv,hk⟩:=h;have hg:(eqGuard op t x y (ev e x) (ev e y)).run P w=.ok () w:=Em fun _=>by
    unfold DO at hv;split at hv
    ·rename_i h1 h2;refine⟨fun c hc=>?_,fun hc _=>?_⟩<;>(rw[h1] at hc;cases hc)
    ·rename_i h1 h2;refine⟨fun c hc=>?_,fun hc _=>?_⟩<;>(rw[h1] at hc;cases hc)
    ·cases hv
   refine CB ⟨v,?_,hk⟩;simp only[Q0,hg,L0];exact KW hv
  | false=>
   rw[hst] at h;simp only[cond] at h;split at h
   ·rename_i neg hneg;obtain⟨r,hr,hk⟩:=h;have hg:(eqGuard op t x y (ev e x) (ev e y)).run P w=.ok () w:=JS hr;refine CB ⟨_,?_,hk⟩;simp only[Q0,hg,L0];exact Ll hneg hr
   ·exact h.elim
 case unOp op t x=>
  obtain⟨v,hv,hk⟩:=h;exact CB ⟨v,RB hv,hk⟩
 case convert s d x=>
  split at h
  ·rename_i ks kd hs hd;obtain⟨k',n,hx,hk⟩:=h;refine CB ⟨_,?_,hk⟩;unfold convert;rw[hx];simp only[Q0,AZ hs,AZ hd,L0];rfl
  ·rename_i hs hd;obtain⟨⟨s',hx⟩,hk⟩:=h;refine CB ⟨_,?_,hk⟩;unfold convert;rw[hx];simp only[Q0,AZ hs,AZ hd,L0];rfl
  ·rename_i el hs hd;simp only[calmB,hs,hd] at hc;cases hc
  ·rename_i el hs hd;split at h
   ·rename_i he;obtain⟨v,hv,hk⟩:=h;refine CB ⟨v,?_,hk⟩;have hx:∃ a l c,ev e x=.slice a l c:=by
     unfold OE at hv;split at hv<;>first|exact⟨_,_,_,by assumption⟩|cases hv
    obtain⟨a,l,c,hx⟩:=hx;have hr:=ke (P:=P) hv;unfold convert;rw[hx] at hr ⊢;simp only[Q0,AZ hs,AZ hd,AZ he,L0];exact hr
   ·exact h.elim
  ·exact h.elim
 case makeInterface t x=>
  split at h
  ·exact h.elim
  ·rename_i d hni hd;refine CB ⟨_,?_,h⟩;unfold Instr.makeInterface;simp only[Q0,AZ hd,L0];cases d<;>first|rfl|exact absurd hd (hni _)
  ·exact h.elim
 case makeFunc fn first captured=>exact CB ⟨_,rfl,h⟩
 case slice t x lo hi mx=>
  cases mx with
  | some _=>exact h.elim
  | none=>
   obtain⟨v,hv,hk⟩:=h;exact CB ⟨v,RA hv,hk⟩
 case fieldAddr t x f=>
  split at h
  ·rename_i off ho;obtain⟨p,hp,hk⟩:=h;refine CB ⟨_,?_,hk⟩;rw[hp];exact NA ho
  ·exact h.elim
 case field t x f=>
  split at h
  ·rename_i fs hu;split at h
   ·rename_i fd hf;cases ho:GA P fd.type with
    | false=>rw[ho] at h;exact h.elim
    | true=>rw[ho] at h;exact CB (PW hu hf ho h)
   ·exact h.elim
  ·exact h.elim
 case indexAddr t x i=>exact CB (NB h)
 case index t x i=>
  split at h
  ·rename_i hu;exact CB (PZ hu h)
  ·rename_i n el hu;cases ho:GA P el with
   | false=>rw[ho] at h;exact h.elim
   | true=>rw[ho] at h;exact CB (PY hu ho h)
  ·exact h.elim
 case lookup t x i ok=>
  split at h
  ·rename_i el he;exact CB (Pa he h)
  ·exact h.elim
 case entry x=>exact CB (Qz h)
 case typeAssert x xt t ok=>
  split at h
  ·exact h.elim
  ·rename_i d hni hd;exact CB (Lo hd hni h)
  ·exact h.elim
 case extract x i=>exact CB (Mz h)
 case call c=>exact oe hc h
 all_goals first|exact h.elim|(cases hc;done)
end
section
variable {P:Program}
def Qk {ρ ρ':Operand->Vz}{l:List (Nat×Operand)}(h:∀ x∈l.map (·.2),ρ x=ρ' x):l.map (fun p=>(p.1,ρ p.2))=l.map (fun p=>(p.1,ρ' p.2)):=
 Q4 fun p hp=>by rw[h p.2 (V1.2 ⟨p,hp,rfl⟩)]
def pm {o:Oper}{ρ ρ':Operand->Vz}{h:H}{k:Kt}(hx:∀ x∈o.op.operands,ρ x=ρ' x):Lf P o ρ h k=Lf P o ρ' h k:=by
 obtain⟨dst,op,type,pos,after,guard⟩:=o;unfold Lf;cases op<;>simp only[Op.operands] at hx<;>dsimp only
 case build t ps=>rw[Qk (ρ:=ρ) (ρ':=ρ') (fun x hx'=>hx x (by simpa using hx'))]
 case buildSlice t n ps=>rw[Qk (ρ:=ρ) (ρ':=ρ') (fun x hx'=>hx x (by simpa using hx'))]
 case makeFunc fn first captured=>
  rw[Array.map_congr_left (xs:=first) fun x h=>hx x (by simp[h]),Array.map_congr_left (xs:=captured) fun x h=>hx x (by simp[h])]
 case call c=>
  obtain⟨callee,args,argTypes⟩:=c;have ha:∀ x∈args.toList,ρ x=ρ' x:=fun x h=>hx x (by simp[Call.operands];right;simpa using h);have hm:args.toList.map ρ=args.toList.map ρ':=Q4 ha;cases callee with
  | invoke r m=>rfl
  | value f=>
   have hf:ρ f=ρ' f:=hx f (by simp[Call.operands]);cases f<;>dsimp only<;>simp only[hf,hm]
  | builtin b=>
   dsimp only;cases b<;>dsimp only
   all_goals first|rfl|skip
   all_goals
    generalize hl:args.toList=l at ha;generalize argTypes.toList=ts;rcases l with _|⟨x,_|⟨y,_|⟨z,r⟩⟩⟩<;>rcases ts with _|⟨t,_|⟨u,_|⟨t',ts⟩⟩⟩<;>(try dsimp only) <;>
     first|rfl|(have h1:=ha x (by simp);have h2:=ha y (by simp);simp only[h1,h2];done)|(have h1:=ha x (by simp);simp only[h1])
 case makeMap t r=>cases r<;>rfl
 case slice t x lo hi mx=>cases mx<;>cases lo<;>cases hi<;>simp_all
 case next x s=>cases s<;>simp_all
 all_goals first|rfl|(simp only[I1,Array.mem_def,V7,or_false,forall_eq_or_imp,forall_eq] at hx;simp only[hx];done)|(simp_all;done)
def AFW {d:EqKind}{c:Bool}{h h':H}{x y:Vz}(hd:d≠.ptr):HS d c h' x y=HS d c h x y:=by
 cases d<;>first
  | exact absurd rfl hd
  | (cases x<;>cases y<;>first
    | rfl
    | (rename_i a _ _ b _ _;cases a<;>first|rfl|(cases b<;>rfl))
    | (rename_i a _ _ _;cases a<;>rfl)
    | (rename_i a _ _ _ _;cases a<;>rfl)
    | (rename_i a _ _ _ _ _;cases a<;>rfl)
    | (rename_i a _ _;cases a<;>rfl)
    | (rename_i a b;cases a<;>first|rfl|(cases b<;>rfl))
    | (rename_i a;cases a<;>rfl))
def sy {o:Oper}{ρ:Operand->Vz}{h h':H}{φ:Vz->Prop}(hc:calmB P o=true)(hl:looksB P o=false)(H:Lf P o ρ h fun v _=>φ v):Lf P o ρ h' fun v _=>φ v:=by
 obtain⟨dst,op,type,pos,after,guard⟩:=o;unfold Lf at H ⊢;cases op<;>dsimp only at H ⊢<;>(try (exact H))<;>(try (cases hc;done))<;>(try (cases hl;done))
 case binOp op t x y u=>
  cases hst:Ke P t with
  | true=>rw[hst] at H;exact H
  | false=>
   rw[hst] at H;simp only[cond] at H ⊢;cases he:Mn op with
   | none=>rw[he] at H;exact H
   | some neg=>
    rw[he] at H;simp only[looksB,he] at hl;obtain⟨r,hr,hk⟩:=H;refine⟨r,?_,hk⟩;generalize CL P t=d at *;rw[<-hr];exact AFW (by rintro rfl;cases hl)
 case slice t x lo hi mx=>cases mx with|none=>exact H|some _=>exact H.elim
 case convert s d x=>
  simp only[calmB] at hc;simp only[looksB] at hl;split at H
  ·exact H
  ·exact H
  ·rename_i h1 h2;simp only[h1,h2] at hc;cases hc
  ·rename_i h1 h2;simp only[h1,h2] at hl;cases hl
  ·exact H.elim
 case call c=>
  obtain⟨callee,args,argTypes⟩:=c;cases callee with
  | invoke r m=>exact H.elim
  | value f=>cases hc
  | builtin b=>
   dsimp only at H ⊢;cases b<;>(try (cases hc;done))<;>dsimp only at H ⊢<;>(try (exact H));split at H
   ·rename_i x t ha ht;split at H
    ·exact H
    ·exact H
    ·rename_i hu;have:argTypes[0]? = some t:=by rw[JA ht];rfl
     simp only[looksB,this,Option.bind_some,hu] at hl;cases hl
    ·exact H
   ·exact H
end
def Bn (a:Act):Env:=fun t=>a.tmps.getD t undef
structure Gd (n:Nat) (a:Act):Prop where
 size:a.tmps.size=n
 defers:a.defers=[]
def JF (a:Act):ev (Bn a)=a.eval:=by funext x;cases x<;>rfl
def Gd.put {n:Nat}{a:Act}(g:Gd n a)(d:Option Tmp)(v:Vz):Gd n (a.put d v):=by
 cases d with
 | none=>exact g
 | some d=>exact⟨by simp[Act.put,g.size],g.defers⟩
def Gd.of_put {n:Nat}{a:Act}{d:Option Tmp}{v:Vz}(g:Gd n (a.put d v)):Gd n a:=by
 cases d with
 | none=>exact g
 | some d=>exact⟨by simpa[Act.put] using g.size,g.defers⟩
def LM {n:Nat}{a:Act}(g:Gd n a){o:Option Tmp}(hd:∀ d,o=some d->d<n)(v:Vz):Bn (a.put o v)=Ss (Bn a) o v:=by
 cases o with
 | none=>rfl
 | some d=>
  funext t;have hlt:d<a.tmps.size:=by rw[g.size];exact hd d rfl
  show (a.tmps.setIfInBounds d v).getD t undef=bif Nat.beq t d then v else a.tmps.getD t undef
  by_cases ht:t=d
  ·subst ht;rw[Nat.beq_refl];simp[Q5,D4,hlt]
  ·have:Nat.beq t d=false:=by
    cases hb:Nat.beq t d with
    | false=>rfl
    | true=>exact absurd (W7 hb) ht
   rw[this];simp[Q5,D4,Ne.symm ht]
def AOS {a:Act}{d:Nat}{b:Bool}(h:Bn a d=.bool b):a.tmps[d]? = some (.bool b):=by
 unfold Bn at h;rw[Q5] at h;cases hx:a.tmps[d]? with
 | none=>rw[hx] at h;cases h
 | some v=>rw[hx] at h;simp only[C9] at h;rw[h]
section
variable {P:Program} {ops:Array Oper} {Q:Exit->Act->World->Prop}
theorem Oj:∀ (f:Nat) (g:Nat×Bool) (a:Act) {A B:Env->Prop},gdC ops f g (Bn a) A B ->
  (yielded ops a.tmps g.1=some g.2/\A (Bn a))\/(yielded ops a.tmps g.1≠some g.2/\B (Bn a))
 | 0,_,_,_,_=>fun h=>h.elim
 | f+1,(j,want),a,A,B=>fun h=>by
  unfold gdC at h;cases ho:ops[j]? with
  | none=>rw[ho] at h;exact h.elim
  | some oj=>
   rw[ho] at h;dsimp only at h ⊢;cases hd:oj.dst with
   | none=>rw[hd] at h;exact h.elim
   | some d=>
    rw[hd] at h;dsimp only at h;have hy:∀ b,Bn a d=.bool b->yielded ops a.tmps j=some b:=fun b hb=>by simp[yielded,ho,hd,AOS hb]
    have key:CR (Bn a d) want (A (QE (Bn a) d (.bool want))) (B (QE (Bn a) d (.bool (!want))))->(yielded ops a.tmps j=some want/\A (Bn a))\/(yielded ops a.tmps j≠some want/\B (Bn a)):=fun h=>by
     rcases jb h with⟨h1,h2⟩|⟨h1,h2⟩
     ·rw[Jc h1] at h2;exact .inl ⟨hy _ h1,h2⟩
     ·rw[Jc h1] at h2;exact .inr ⟨by rw[hy _ h1];cases want<;>decide,h2⟩
    cases hg:oj.guard with
    | none=>rw[hg] at h;exact key h
    | some g=>
     rw[hg] at h;rcases Oj f g a h with⟨_,h2⟩|⟨_,h2⟩
     ·exact key h2
     ·right;refine⟨?_,?_⟩
      ·intro hyy;unfold skN at h2;have:Bn a d=.bool want:=by
        unfold yielded at hyy;simp only[ho,Option.bind_some,hd] at hyy;unfold Bn;rw[Q5];cases hx:a.tmps[d]? with
        | none=>rw[hx] at hyy;cases hyy
        | some v=>
         rw[hx] at hyy;cases v<;>simp at hyy;simp[hyy]
       rw[this] at h2;cases want<;>exact h2
      ·unfold skN at h2;revert h2;cases Bn a d<;>first|exact fun h=>h|(rename_i t;cases t<;>cases want<;>first|exact fun h=>h|exact fun h=>h.elim)
def Jo {o:Oper}{a:Act}{A B:Env->Prop}(h:ql ops o.guard (Bn a) A B) :
  (Region.wanted o (yielded ops a.tmps)=true/\A (Bn a))\/(Region.wanted o (yielded ops a.tmps)=false/\B (Bn a)):=by
 unfold ql at h;cases hg:o.guard with
 | none=>rw[hg] at h;exact .inl ⟨by simp[Region.wanted,hg],h⟩
 | some g=>
  rw[hg] at h;rcases Oj 9 g a h with⟨h1,h2⟩|⟨h1,h2⟩
  ·exact .inl ⟨by simp[Region.wanted,hg,h1],h2⟩
  ·exact .inr ⟨by simp[Region.wanted,hg,h1],h2⟩
def kz (hng:Ps P){o:Oper}{a:Act}{w:World}{k:Kt}{K:Act->World->Prop}(h:Lf P o (ev (Bn a)) w.heap k)
  (hK:∀ v w',Do w w'->k v w'.heap->K (a.put o.dst v) w'):o.wp P a w K Q:=by
 have hr:=APb hng h;rw[JF] at hr;unfold Oper.wp;generalize (execOp a.eval o).run P w=r at *;cases r with
 | ok n w'=>
  cases n<;>simp only[Ig] at hr<;>simp only[Oper.upon]
  case value v=>exact hK v w' hr.1 hr.2
  case skip=>exact hK undef w' hr.1 hr.2
  case enter f args=>
   obtain⟨rfl,hc⟩:=hr;refine hc.mono fun e w'' he=>?_;cases e<;>simp only[mw] at he;exact hK _ w'' he.1 he.2
 | halt x w'=>exact hr.elim
theorem Ma (hng:Ps P){n:Nat}{w0:World}{K:Env->H->Prop}(hQ:∀ a w,Gd n a->Do w0 w->K (Bn a) w.heap->Q .normal a w):∀ (l:List Oper) (a:Act) (w:World),
  (l.all fun o=>match o.dst with|some d=>Nat.blt d n|none=>true)=true->Gd n a->Do w0 w->GZ P ops l K (Bn a) w.heap->wpList P ops Q l a w
 | [],a,w,_,g,s,h=>hQ a w g s h
 | o::l,a,w,hl,g,s,h=>by
  simp only[U7,W2] at hl;have hd:∀ d,o.dst=some d->d<n:=fun d hd=>by
   have:=hl.1;rw[hd] at this;simp only[Nat.blt_eq] at this;exact this
  unfold GZ at h;unfold wpList;rcases Jo h with⟨hw,hA⟩|⟨hw,hB⟩
  ·rw[D0 hw];refine .inl (kz hng hA fun v w' hs hk=>?_);rw[<-LM g hd] at hk;exact Ma hng hQ l _ _ hl.2 (g.put _ _) ⟨hs.1.trans s.1,hs.2.trans s.2⟩ hk
  ·rw[F0 (by rw[hw];decide)];rw[<-LM g hd] at hB;exact Ma hng hQ l _ _ hl.2 (g.put _ _) s hB
end
def Hj (s i:Nat):hasB s i=s.testBit i:=by
 unfold hasB;show Nat.beq ((s >>> i) &&& 1) 1=_;rw[Nat.and_one_is_mod];unfold Nat.testBit;rw[Nat.one_and_eq_mod_two];rcases Nat.mod_two_eq_zero_or_one (s >>> i) with h|h<;>rw[h]<;>rfl
def Jp (a b i:Nat):hasB (a ||| b) i=(hasB a i||hasB b i):=by simp only[Hj,Nat.testBit_or]
def UY (j i:Nat):hasB (1 <<< j) i=decide (i=j):=by
 rw[Hj,Nat.testBit_shiftLeft];by_cases h:j<=i
 ·by_cases h2:i=j
  ·subst h2;simp
  ·have:i-j≠0:=by omega
   have h1:Nat.testBit 1 (i-j)=false:=Nat.testBit_lt_two_pow (Nat.one_lt_two_pow this);simp[h,h2,h1]
 ·have:i≠j:=by omega
  simp[h,this]
def Hk (i:Nat):hasB 0 i=false:=by simp[Hj]
def Ul {d L:Nat}:Nat.beq (Nat.land d L) d=true↔∀ i,hasB d i=true->hasB L i=true:=by
 rw[Nat.beq_eq];show d &&& L=d↔_;constructor
 ·intro h i hi;rw[Hj] at hi ⊢;rw[<-h,Nat.testBit_and] at hi;simp only[W2] at hi;exact hi.2
 ·intro h;apply Nat.eq_of_testBit_eq;intro i;have:=h i;simp only[Hj] at this;rw[Nat.testBit_and];cases hd:d.testBit i
  ·rfl
  ·rw[this hd];rfl
theorem VI {L d s:Nat}{ds:List Nat}:Fo L (d::ds) s=bif !hasB L s&&Nat.beq (Nat.land d L) d then s::Fo L ds (s+1) else Fo L ds (s+1):=rfl
theorem PF {L i:Nat}:∀ (ds:List Nat) (s:Nat),i∈Fo L ds s↔∃ t d,ds[t]? = some d/\i=s+t/\hasB L i=false/\Nat.beq (Nat.land d L) d=true
 | [],s=>by simp[Fo]
 | d::ds,s=>by
  have ih:=PF (L:=L) (i:=i) ds (s+1);have key:(∃ t d',(d::ds)[t]? = some d'/\i=s+t/\hasB L i=false/\Nat.beq (Nat.land d' L) d'=true) ↔
    (i=s/\hasB L i=false/\Nat.beq (Nat.land d L) d=true)\/∃ t d',ds[t]? = some d'/\i=s+1+t/\hasB L i=false/\Nat.beq (Nat.land d' L) d'=true:=by
   constructor
   ·rintro⟨t,d',h1,h2,h3⟩;cases t with
    | zero=>simp only[L4,M2] at h1;subst h1;exact .inl ⟨h2,h3⟩
    | succ t=>exact .inr ⟨t,d',by simpa using h1,by omega,h3⟩
   ·rintro (⟨h1,h2⟩|⟨t,d',h1,h2,h3⟩)
    ·exact⟨0,d,rfl,by omega,h2⟩
    ·exact⟨t+1,d',by simpa using h1,by omega,h3⟩
  rw[key,<-ih,VI];cases hb:(!hasB L s&&Nat.beq (Nat.land d L) d) with
  | true=>
   simp only[W2,M7] at hb;simp only[cond,I1];constructor
   ·rintro (h|h)
    ·subst h;exact .inl ⟨rfl,hb⟩
    ·exact .inr h
   ·rintro (h|h)
    ·exact .inl h.1
    ·exact .inr h
  | false=>
   simp only[cond];constructor
   ·exact .inr
   ·rintro (⟨h1,h2,h3⟩|h)
    ·subst h1;rw[h2,h3] at hb;cases hb
    ·exact h
theorem JI {pl:Kw}{i:Nat}:∀ (l:List Nat),FH pl l=some i->i∈l/\pl.calm.getD i false=true
 | [],h=>by cases h
 | j::r,h=>by
  unfold FH at h;cases hb:pl.calm.getD j false with
  | true=>rw[hb] at h;cases h;exact⟨T0 ..,hb⟩
  | false=>rw[hb] at h;have:=JI r h;exact⟨U0 _ this.1,this.2⟩
theorem JH {pl:Kw}:∀ (l:List Nat),FH pl l=none->∀ i∈l,pl.calm.getD i false=false
 | [],_,i,hi=>by cases hi
 | j::r,h,i,hi=>by
  unfold FH at h;cases hb:pl.calm.getD j false with
  | true=>rw[hb] at h;cases h
  | false=>
   rw[hb] at h;rcases I1.1 hi with rfl|hi
   ·exact hb
   ·exact JH r h i hi
theorem PD {L R k:Nat}:∀ (l:List Bool) (s t:Nat),l[t]? = some true->k=s+t->hasB L k=true->hasB R k=false->k∈Kg L R l s
 | [],s,t,h,_,_,_=>by cases h
 | b::r,s,t,h,hk,hL,hR=>by
  unfold Kg;cases t with
  | zero=>
   simp only[L4,M2] at h;subst h;have:k=s:=by omega
   subst this;rw[hL,hR];exact T0 ..
  | succ t=>
   have:=PD (L:=L) (R:=R) r (s+1) t (by simpa using h) (by omega) hL hR;cases (b&&hasB L s && !hasB R s)<;>simp only[cond]
   ·exact this
   ·exact U0 _ this
theorem Mq {P:Program}{ops:Array Oper}{e:Env}{h:H}{A:Prop}:∀ (l:List Nat),Ou P ops l e h A->A/\∀ k∈l,∃ o,ops[k]? = some o /\
  ql ops o.guard e (fun e=>Lf P o (ev e) h fun v _=>v=(match o.dst with|some d=>e d|none=>undef)) (fun _=>True)
 | [],h=>⟨h,fun _ hk=>by cases hk⟩
 | j::r,⟨h1,h2⟩=>by
  obtain⟨hA,hr⟩:=Mq r h2;refine⟨hA,fun k hk=>?_⟩;rcases I1.1 hk with rfl|hk
  ·cases ho:ops[k]? with
   | none=>rw[ho] at h1;exact h1.elim
   | some o=>rw[ho] at h1;exact⟨o,rfl,h1⟩
  ·exact hr k hk
theorem OB {F:Nat->Env->H->Prop}{e:Env}{h:H}:∀ (l:List Nat),Ti l F e h->∀ i∈l,F i e h
 | [],_,_,hi=>by cases hi
 | [j],h,i,hi=>by simp only[I1,V7,or_false] at hi;subst hi;exact h
 | j::j'::r,⟨h1,h2⟩,i,hi=>by
  rcases I1.1 hi with rfl|hi
  ·exact h1
  ·exact OB (j'::r) h2 i hi
def AON (P:Program)(ops:Array Oper):Bool:=
 let pl:=Qq P ops.toList
 let lk:=(ops.toList.map fun o=>o.looksAt ops).zipIdx
 let ds:=(ops.toList.map (·.dst)).zipIdx
 ds.all fun p=>match p.1 with
  | none=>true
  | some d=>(lk.all fun q=>!(q.1.any (Nat.beq d))||hasB (pl.befs.getD q.2 0) p.2||(!(pl.calm.getD p.2 true)&&hasB (pl.befs.getD p.2 0) q.2)) &&
    (ds.all fun q=>Nat.beq p.2 q.2||match q.1 with|some d'=>!(Nat.beq d d')|none=>true)
structure Ml (P:Program) (ops:Array Oper) (pl:Kw):Prop where
 sep:∀ (i k:Nat) (oi ok:Oper) (d:Tmp),ops[i]? = some oi->ops[k]? = some ok->oi.dst=some d->d∈ok.looksAt ops->hasB (pl.befs.getD k 0) i=true\/(calmB P oi=false/\hasB (pl.befs.getD i 0) k=true)
 dist:∀ (i k:Nat) (oi ok:Oper) (d:Tmp),ops[i]? = some oi->ops[k]? = some ok->i≠k->oi.dst=some d->ok.dst≠some d
 nosel:∀ (j:Nat) (o:Oper) cs b,ops[j]? = some o->o.op≠.select cs b
 bef:∀ m k,hasB (pl.befs.getD m 0) k=true->hasB (pl.deps.getD m 0) k=true\/∃ x,hasB (pl.deps.getD m 0) x=true/\hasB (pl.befs.getD x 0) k=true
 dep:∀ (m:Nat) (o:Oper),ops[m]? = some o->pl.deps[m]? = some (depB o)
 len:pl.deps.length=ops.size
 calm:∀ (i:Nat) (o:Oper),ops[i]? = some o->pl.calm.getD i false=calmB P o
 looks:∀ (i:Nat) (o:Oper),ops[i]? = some o->pl.looks[i]? = some (looksB P o)
 asg:∀ (i:Nat) (o:Oper),ops[i]? = some o->pl.asg.getD i false=assignB o
theorem ZZ {i:Nat}:∀ (l:List Edge) (s:Nat),hasB (l.foldl (fun s e=>bif Region.binds .any e then s ||| (1 <<< e.on) else s) s) i=true↔hasB s i=true\/∃ e∈l,Region.binds .any e=true/\e.on=i
 | [],s=>by simp
 | e::l,s=>by
  rw[J4,ZZ l];cases hb:Region.binds .any e with
  | true=>
   simp only[cond,Jp,UY,N7,W4];constructor
   ·rintro ((h|h)|⟨e',h1,h2⟩)
    ·exact .inl h
    ·exact .inr ⟨e,by simp,hb,h.symm⟩
    ·exact .inr ⟨e',by simp[h1],h2⟩
   ·rintro (h|⟨e',h1,h2,h3⟩)
    ·exact .inl (.inl h)
    ·rcases I1.1 h1 with rfl|h1
     ·exact .inl (.inr h3.symm)
     ·exact .inr ⟨e',h1,h2,h3⟩
  | false=>
   simp only[cond];constructor
   ·rintro (h|⟨e',h1,h2⟩)
    ·exact .inl h
    ·exact .inr ⟨e',by simp[h1],h2⟩
   ·rintro (h|⟨e',h1,h2,h3⟩)
    ·exact .inl h
    ·rcases I1.1 h1 with rfl|h1
     ·rw[hb] at h2;cases h2
     ·exact .inr ⟨e',h1,h2,h3⟩
def MH {o:Oper}{i:Nat}:hasB (depB o) i=true↔∃ e∈o.after,Region.binds .any e=true/\e.on=i:=by
 unfold depB;rw[ZZ];simp[Hk]
theorem Tt {d i:Nat}:∀ (l:List (Nat×Nat)) (s:Nat),hasB (l.foldl (fun s x=>bif hasB d x.2 then s ||| x.1 else s) s) i=true->hasB s i=true\/∃ x∈l,hasB d x.2=true/\hasB x.1 i=true
 | [],s,h=>.inl h
 | x::l,s,h=>by
  rw[J4] at h;rcases Tt l _ h with h|⟨y,h1,h2⟩
  ·cases hb:hasB d x.2 with
   | true=>
    rw[hb] at h;simp only[cond,Jp,N7] at h;rcases h with h|h
    ·exact .inl h
    ·exact .inr ⟨x,by simp,hb,h⟩
   | false=>rw[hb] at h;exact .inl h
  ·exact .inr ⟨y,by simp[h1],h2⟩
def qo (deps:List Nat)(b:List Nat):Prop:=∀ m,m<b.length->∀ k,hasB (b.getD m 0) k=true->hasB (deps.getD m 0) k=true\/∃ x,hasB (deps.getD m 0) x=true/\hasB (b.getD x 0) k=true
theorem ZU {deps:List Nat}:∀ (r acc:List Nat),qo deps acc->deps.drop acc.length=r->qo deps (Ts r acc)/\(Ts r acc).length=acc.length+r.length
 | [],acc,h,_=>⟨h,rfl⟩
 | d::r,acc,h,hd=>by
  have hdm:deps.getD acc.length 0=d:=by
   have:(deps.drop acc.length)[0]? = some d:=by rw[hd];rfl
   rw[Q3,Z4] at this;rw[W0,this];rfl
  have hr:deps.drop (acc.length+1)=r:=by
   rw[<-H5,hd];rfl
  let x:=acc.zipIdx.foldl (fun s x=>bif hasB d x.2 then s ||| x.1 else s) d
  have hx:qo deps (acc++[x]):=by
   intro m hm k hk;have old:∀ y,y<acc.length->(acc++[x]).getD y 0=acc.getD y 0:=fun y hy=>by
    rw[W0,Z1 hy,W0]
   have mono:∀ y k,hasB (acc.getD y 0) k=true->hasB ((acc++[x]).getD y 0) k=true:=fun y k hy=>by
    by_cases hlt:y<acc.length
    ·rw[old y hlt];exact hy
    ·rw[W0,D3 (by omega)] at hy;simp[Hk] at hy
   by_cases hlt:m<acc.length
   ·rw[old m hlt] at hk;rcases h m hlt k hk with h1|⟨y,h1,h2⟩
    ·exact .inl h1
    ·exact .inr ⟨y,h1,mono y k h2⟩
   ·have hm':m=acc.length:=by simp at hm;omega
    subst hm';rw[hdm];have hlast:(acc++[x]).getD acc.length 0=x:=by simp[W0]
    rw[hlast] at hk;rcases Tt _ _ hk with h1|⟨⟨y,t⟩,h1,h2,h3⟩
    ·exact .inl h1
    ·refine .inr ⟨t,h2,?_⟩;have:=A8.1 h1;refine mono t k ?_;rw[W0,this];exact h3
  have:=ZU r (acc++[x]) hx (by simpa using hr);refine⟨this.1,?_⟩;show (Ts r (acc++[x])).length=_;rw[this.2];simp[H8,O8 1]
def AEE {P:Program}{ops:Array Oper}(h:AON P ops=true)(hs:Region.noSelect ops=true):Ml P ops (Qq P ops.toList):=by
 have hget:∀ {i:Nat} {o:Oper},ops[i]? = some o->ops.toList[i]? = some o:=fun h=>by simpa using h
 have hmap:∀ {β:Type} (f:Oper->β) {i:Nat} {o:Oper},ops[i]? = some o->(ops.toList.map f)[i]? = some (f o):=fun f i o h=>by
  rw[Y0,hget h];rfl
 have hcalm:∀ i o b,ops[i]? = some o->(Qq P ops.toList).calm.getD i b=calmB P o:=fun i o b h=>by
  show (ops.toList.map (calmB P)).getD i b=_;rw[W0,hmap _ h];rfl
 have hb:=ZU (deps:=ops.toList.map depB) (ops.toList.map depB) [] (fun m hm=>by cases hm) rfl;unfold AON at h;simp only[K5] at h;have hz:∀ {i:Nat} {o:Oper} {d:Nat},ops[i]? = some o->o.dst=some d->(o.dst,i)∈(ops.toList.map (·.dst)).zipIdx:=fun ho hd=>A8.2 (hmap _ ho);refine⟨?_,?_,Region.noSelect_spec hs,?_,fun m o ho=>hmap _ ho,by simp[Qq],fun i o=>hcalm i o false,fun i o ho=>hmap _ ho,fun i o ho=>?_⟩
 ·intro i k oi ok d hi hk hd hmem;have h1:=h _ (hz hi hd);simp only[hd,W2,K5] at h1;have h2:=h1.1 (ok.looksAt ops,k) (A8.2 (hmap (fun o=>o.looksAt ops) hk));simp only[N7,M7,W2] at h2;rcases h2 with (h2|h2)|h2
  ·rw[List.any_eq_false] at h2;exact absurd (Nat.beq_refl d) (h2 d hmem)
  ·exact .inl h2
  ·rw[hcalm i oi true hi] at h2;exact .inr h2
 ·intro i k oi ok d hi hk hne hd hd';have h1:=h _ (hz hi hd);simp only[hd,W2,K5] at h1;have h2:=h1.2 (ok.dst,k) (A8.2 (hmap (·.dst) hk));simp only[hd',N7,M7] at h2;rcases h2 with h2|h2
  ·exact hne (W7 h2)
  ·rw[Nat.beq_refl] at h2;cases h2
 ·intro m k hk;by_cases hlt:m<(Ts (ops.toList.map depB) []).length
  ·exact hb.1 m hlt k hk
  ·have:(Qq P ops.toList).befs.getD m 0=0:=by
    show (Ts (ops.toList.map depB) []).getD m 0=0;rw[W0,D3 (by omega)];rfl
   rw[this,Hk] at hk;cases hk
 ·show (ops.toList.map assignB).getD i false=_;rw[W0,hmap _ ho];rfl
section
variable {P:Program} {ops:Array Oper} {Q:Exit->Act->World->Prop} {pl:Kw} {n:Nat}
def s5 {o:Oper}{ρ:Operand->Vz}{h:H}{k:Kt}(hc:calmB P o=true)(hh:Lf P o ρ h k):∃ v,k v h/\Lf P o ρ h fun v' _=>v'=v:=by
 obtain⟨dst,op,type,pos,after,guard⟩:=o;unfold Lf at hh ⊢;cases op<;>dsimp only at hh ⊢<;>(try (cases hc;done))<;>(try (exact hh.elim))
 case move x=>exact⟨_,hh,rfl⟩
 case pick c a b=>
  unfold KU at hh ⊢;split at hh
  ·exact⟨_,hh,rfl⟩
  ·exact hh.elim
 case build t parts=>
  split at hh
  ·exact hh.elim
  ·obtain⟨zv,cs,h1,h2,h3⟩:=hh;exact⟨_,h3,zv,cs,h1,h2,rfl⟩
 case load t a=>
  cases ho:GA P t<;>rw[ho] at hh
  ·exact hh.elim
  ·obtain⟨p,v,h1,h2,h3⟩:=hh;exact⟨_,h3,p,v,h1,h2,rfl⟩
 case nilCheck x=>exact⟨_,hh.2,hh.1,rfl⟩
 case binOp op t x y u=>
  cases hst:Ke P t with
  | true=>rw[hst] at hh;obtain⟨v,h1,h2⟩:=hh;exact⟨_,h2,v,h1,rfl⟩
  | false=>
   rw[hst] at hh;simp only[cond] at hh ⊢;cases he:Mn op with
   | none=>rw[he] at hh;exact hh.elim
   | some neg=>rw[he] at hh;obtain⟨v,h1,h2⟩:=hh;exact⟨_,h2,v,h1,rfl⟩
 case unOp=>obtain⟨v,h1,h2⟩:=hh;exact⟨_,h2,v,h1,rfl⟩
 case convert s d x=>
  simp only[calmB] at hc;split at hh
  ·obtain⟨a,b,h1,h2⟩:=hh;exact⟨_,h2,a,b,h1,rfl⟩
  ·exact⟨_,hh.2,hh.1,rfl⟩
  ·rename_i h1 h2;simp only[h1,h2] at hc;cases hc
  ·split at hh
   ·obtain⟨v,h1,h2⟩:=hh;exact⟨_,h2,v,h1,rfl⟩
   ·exact hh.elim
  ·exact hh.elim
 case makeInterface t x=>
  split at hh
  ·exact hh.elim
  ·exact⟨_,hh,rfl⟩
  ·exact hh.elim
 case makeFunc=>exact⟨_,hh,rfl⟩
 case slice t x lo hi mx=>
  cases mx with
  | none=>obtain⟨v,h1,h2⟩:=hh;exact⟨_,h2,v,h1,rfl⟩
  | some _=>exact hh.elim
 case fieldAddr t x f=>
  split at hh
  ·obtain⟨v,h1,h2⟩:=hh;exact⟨_,h2,v,h1,rfl⟩
  ·exact hh.elim
 case field t x f=>
  split at hh
  ·split at hh
   ·rename_i fd _;cases ho:GA P fd.type<;>rw[ho] at hh
    ·exact hh.elim
    ·obtain⟨a,v,h1,h2,h3⟩:=hh;exact⟨_,h3,a,v,h1,h2,rfl⟩
   ·exact hh.elim
  ·exact hh.elim
 case indexAddr t x i=>
  obtain⟨kk,m,h1,h2⟩:=hh;generalize hd:DU P t=d at *;cases d<;>dsimp only at h2<;>(try (exact h2.elim))
  ·obtain⟨a,l,c,h3,h4,h5,h6⟩:=h2;refine⟨_,h6,?_⟩;unfold Ap;exact⟨kk,m,h1,a,l,c,h3,h4,h5,rfl⟩
  ·obtain⟨a,h3,h4,h5,h6⟩:=h2;refine⟨_,h6,?_⟩;unfold Ap;exact⟨kk,m,h1,a,h3,h4,h5,rfl⟩
 case index t x i=>
  split at hh
  ·obtain⟨a,b,c,d,h1,h2,h3,h4,h5⟩:=hh;exact⟨_,h5,a,b,c,d,h1,h2,h3,h4,rfl⟩
  ·rename_i m el _;cases ho:GA P el<;>rw[ho] at hh
   ·exact hh.elim
   ·obtain⟨a,b,c,d,h1,h2,h3,h4,h5,h6⟩:=hh;exact⟨_,h6,a,b,c,d,h1,h2,h3,h4,h5,rfl⟩
  ·exact hh.elim
 case lookup t x i ok=>
  split at hh
  ·obtain⟨h1,a,b,h2,h3,h4⟩:=hh;exact⟨_,h4,h1,a,b,h2,h3,rfl⟩
  ·exact hh.elim
 case entry x=>
  obtain⟨a,b,c,d,e,f,g,i,h1,h2,h3,h4,h5,h6⟩:=hh;exact⟨_,h6,a,b,c,d,e,f,g,i,h1,h2,h3,h4,h5,rfl⟩
 case typeAssert x xt t ok=>
  split at hh
  ·exact hh.elim
  ·obtain⟨zv,h1,h2⟩:=hh;unfold GJ;generalize ρ x=y at *;cases y<;>dsimp only at h2<;>(try (exact h2.elim))
   case nilIface=>exact⟨_,h2.2,zv,h1,h2.1,rfl⟩
   case iface t' u=>
    by_cases ht:t'=t
    ·rw[D0 ht] at h2;exact⟨_,h2,zv,h1,by dsimp only;rw[D0 ht]⟩
    ·rw[F0 ht] at h2;exact⟨_,h2.2,zv,h1,by dsimp only;rw[F0 ht];exact⟨h2.1,rfl⟩⟩
  ·exact hh.elim
 case extract x i=>obtain⟨a,b,h1,h2,h3⟩:=hh;exact⟨_,h3,a,b,h1,h2,rfl⟩
 case call c=>
  obtain⟨callee,args,argTypes⟩:=c;cases callee with
  | invoke r m=>exact hh.elim
  | value f=>cases hc
  | builtin b=>
   dsimp only at hh ⊢;cases b<;>(try (cases hc;done))<;>dsimp only at hh ⊢
   case len=>
    split at hh
    ·split at hh
     ·obtain⟨a,h1,h2⟩:=hh;exact⟨_,h2,a,h1,rfl⟩
     ·obtain⟨a,b,c,h1,h2⟩:=hh;exact⟨_,h2,a,b,c,h1,rfl⟩
     ·rcases hh with⟨h1,h2⟩|⟨a,b,c,h1,h2,h3⟩
      ·exact⟨_,h2,.inl ⟨h1,rfl⟩⟩
      ·exact⟨_,h3,.inr ⟨a,b,c,h1,h2,rfl⟩⟩
     ·exact hh.elim
    ·exact hh.elim
   case cap=>
    split at hh
    ·split at hh
     ·obtain⟨a,b,c,h1,h2⟩:=hh;exact⟨_,h2,a,b,c,h1,rfl⟩
     ·exact hh.elim
    ·exact hh.elim
   case min=>
    split at hh
    ·obtain⟨a,b,c,h1,h2,h3⟩:=hh;exact⟨_,h3,a,b,c,h1,h2,rfl⟩
    ·exact hh.elim
   case max=>
    split at hh
    ·obtain⟨a,b,c,h1,h2,h3⟩:=hh;exact⟨_,h3,a,b,c,h1,h2,rfl⟩
    ·exact hh.elim
def YN (P:Program)(ops:Array Oper)(a:Act)(h:H)(o:Oper)(v:Vz):Prop:=
 (Region.wanted o (yielded ops a.tmps)=true/\Lf P o a.eval h fun v' _=>o.dst.isSome=true->v'=v)\/(Region.wanted o (yielded ops a.tmps)=false/\v=undef)
def Hy (a:Act)(o:Oper):Vz:=match o.dst with|some d=>a.tmps.getD d undef|none=>undef
def YN.wpOp {i:Nat}{o:Oper}{v:Vz}{a:Act}{w:World}{K:Act->World->Prop}(hi:ops[i]? = some o)(hc:calmB P o=true)(hy:YN P ops a w.heap o v)(hK:K (a.put o.dst v) w):wpOp P ops Q i K a w:=by
 unfold Go.wpOp;simp only[hi];rcases hy with⟨hw,hv⟩|⟨hw,rfl⟩
 ·rw[D0 hw];rw[<-JF] at hv;obtain⟨v',hr,hv'⟩:=AFM hc hv;rw[JF] at hr;refine .inl ?_;unfold Oper.wp;rw[hr];show K (a.put o.dst v') w;cases hd:o.dst with
  | none=>rw[hd] at hK;exact hK
  | some d=>rw[hd] at hv' hK;rw[hv' rfl];exact hK
 ·rw[F0 (by rw[hw];decide)];exact hK
def YN.put {a:Act}{h:H}{o:Oper}{v u:Vz}{d:Option Tmp}(hd:∀ x,d=some x->x∉o.looksAt ops):YN P ops (a.put d u) h o v↔YN P ops a h o v:=by
 unfold YN;rw[wanted_put o a d u hd,pm (ρ:=(a.put d u).eval) (ρ':=a.eval) fun x hx=>Act.eval_put fun e he hxe=>hd e he (by
  subst hxe;exact X5 _ (List.mem_filterMap.2 ⟨.tmp e,by simpa using hx,rfl⟩))]
def YN.slot {a:Act}{h:H}{o:Oper}{v:Vz}(g:Gd n a)(hd:∀ d,o.dst=some d->d<n)(hy:YN P ops a h o v):YN P ops a h o (Hy (a.put o.dst v) o):=by
 unfold Hy;cases ho:o.dst with
 | none=>
  dsimp only;rcases hy with⟨h1,h2⟩|⟨h1,h2⟩
  ·exact .inl ⟨h1,Gy (fun _ _ _ hx=>by rw[ho] at hx;cases hx) h2⟩
  ·exact .inr ⟨h1,rfl⟩
 | some d=>
  have hlt:d<a.tmps.size:=by rw[g.size];exact hd d ho
  have:(a.put (some d) v).tmps.getD d undef=v:=by
   simp[Act.put,Q5,D4,hlt]
  dsimp only;rw[this];exact hy
def AEC {a:Act}{o:Oper}{v:Vz}:a.put o.dst (Hy (a.put o.dst v) o)=a.put o.dst v\/¬∀ d,o.dst=some d->d<a.tmps.size:=by
 cases ho:o.dst with
 | none=>exact .inl rfl
 | some d=>
  by_cases hlt:d<a.tmps.size
  ·left;unfold Hy;rw[ho];dsimp only;have:(a.put (some d) v).tmps.getD d undef=v:=by
    simp[Act.put,Q5,D4,hlt]
   rw[this]
  ·exact .inr fun h=>hlt (h d rfl)
def Gb {a:Act}{o:Oper}{d:Option Tmp}{u:Vz}(h:∀ x,d=some x->o.dst≠some x):Hy (a.put d u) o=Hy a o:=by
 unfold Hy;cases ho:o.dst with
 | none=>rfl
 | some e=>
  cases d with
  | none=>rfl
  | some x=>
   have hne:x≠e:=fun hx=>h x rfl (by rw[ho,hx]);simp[Act.put,Q5,D4,hne]
def RN (P:Program)(ops:Array Oper)(pl:Kw)(R j:Nat):Nat:=match ops[j]? with|some o=>if calmB P o=true then R else R ||| pl.befs.getD j 0|none=>R
def Mk (P:Program)(ops:Array Oper)(listed:Array Bool)(R:Nat)(a:Act)(h:H):Prop:=
 ∀ (k:Nat) (o:Oper),ops[k]? = some o->calmB P o=true->listed.getD k false=true->hasB R k=false->YN P ops a h o (Hy a o)
def wpX (P:Program)(ops:Array Oper)(pl:Kw)(n:Nat)(Q:Exit->Act->World->Prop):Nat->Array Bool->Nat->Act->World->Prop
 | 0,listed,_,a,w=>Region.ready .any ops listed=[]/\Q .normal a w
 | f+1,listed,R,a,w=>(Region.ready .any ops listed=[]->Q .normal a w)/\∀ j∈Region.ready .any ops listed,
   wpOp P ops Q j (fun a' w'=>Gd n a'/\Mk P ops (listed.setIfInBounds j true) (RN P ops pl R j) a' w'.heap/\wpX P ops pl n Q f (listed.setIfInBounds j true) (RN P ops pl R j) a' w') a w
theorem Pp:∀ (f:Nat) (listed:Array Bool) (R:Nat) (a:Act) (w:World),wpX P ops pl n Q f listed R a w->wpAny P .any ops Q f listed a w
 | 0,_,_,_,_,h=>h
 | f+1,_,_,_,_,h=>⟨h.1,fun j hj=>wpOp_mono (fun a' w' h'=>Pp f _ _ a' w' h'.2.2) (h.2 j hj)⟩
structure Inv (ops:Array Oper) (pl:Kw) (listed:Array Bool) (R:Nat):Prop where
 size:listed.size=ops.size
 cl:∀ m k,listed.getD m false=true->hasB (pl.befs.getD m 0) k=true->listed.getD k false=true
 re:∀ k,hasB R k=true->listed.getD k false=true
def Dl {listed:Array Bool}{R j:Nat}(I:Inv ops pl listed R)(hj:j∈Region.ready .any ops listed) :
  listed.getD j false=false/\∃ o,ops[j]? = some o/\∀ e∈o.after,Region.binds .any e=true->listed.getD e.on false=true:=by
 obtain⟨h1,o,ho,h2⟩:=mem_ready.1 hj;have hlt:j<listed.size:=by rw[I.size];exact (S3.1 ho).1
 refine⟨?_,o,ho,h2⟩;simpa[Array.getD,hlt] using h1
def Jy (rg:Ml P ops pl){listed:Array Bool}{R j:Nat}(I:Inv ops pl listed R)(hj:j∈Region.ready .any ops listed)(k:Nat)(hk:hasB (pl.befs.getD j 0) k=true):listed.getD k false=true:=by
 obtain⟨_,o,ho,h2⟩:=Dl I hj;have hdep:∀ x,hasB (pl.deps.getD j 0) x=true->listed.getD x false=true:=fun x hx=>by
  rw[W0,rg.dep j o ho] at hx;obtain⟨e,h3,h4,h5⟩:=MH.1 hx;rw[<-h5];exact h2 e h3 h4
 rcases rg.bef j k hk with h|⟨x,h,h'⟩
 ·exact hdep k h
 ·exact I.cl x k (hdep x h) h'
def Cu {listed:Array Bool}{i j:Nat}(hi:i<listed.size):(listed.setIfInBounds i true).getD j false=true↔j=i\/listed.getD j false=true:=by
 by_cases h:i=j
 ·subst h;simp[hi]
 ·rw[getD_set_ne false h];constructor
  ·exact .inr
  ·rintro (h'|h')
   ·exact absurd h'.symm h
   ·exact h'
def Inv.step (rg:Ml P ops pl){listed:Array Bool}{R j:Nat}(I:Inv ops pl listed R)(hj:j∈Region.ready .any ops listed):Inv ops pl (listed.setIfInBounds j true) (RN P ops pl R j):=by
 obtain⟨_,o,ho,_⟩:=Dl I hj;have hlt:j<listed.size:=by rw[I.size];exact (S3.1 ho).1
 refine⟨by simp[I.size],fun m k hm hk=>?_,fun k hk=>?_⟩
 ·rw[Cu hlt] at hm ⊢;rcases hm with rfl|hm
  ·exact .inr (Jy rg I hj k hk)
  ·exact .inr (I.cl m k hm hk)
 ·rw[Cu hlt];unfold RN at hk;rw[ho] at hk;dsimp only at hk;split at hk
  ·exact .inr (I.re k hk)
  ·rw[Jp,N7] at hk;rcases hk with hk|hk
   ·exact .inr (I.re k hk)
   ·exact .inr (Jy rg I hj k hk)
def Ky {R j:Nat}{o:Oper}(ho:ops[j]? = some o)(hc:calmB P o=true):RN P ops pl R j=R:=by simp[RN,ho,hc]
def RV {R j:Nat}{o:Oper}(ho:ops[j]? = some o)(hc:calmB P o=false):RN P ops pl R j=R ||| pl.befs.getD j 0:=by simp[RN,ho,hc]
def IL (rg:Ml P ops pl){listed:Array Bool}{R j k:Nat}{oj ok:Oper}(I:Inv ops pl listed R)(hj:j∈Region.ready .any ops listed)(hoj:ops[j]? = some oj)(hok:ops[k]? = some ok)
  (hk:k=j\/listed.getD k false=true) (hR:hasB (RN P ops pl R j) k=false):∀ x,oj.dst=some x->x∉ok.looksAt ops:=by
 intro x hx hmem;have hn:=(Dl I hj).1;rcases rg.sep j k oj ok x hoj hok hx hmem with h|⟨h1,h2⟩
 ·rcases hk with rfl|hk
  ·rw[Jy rg I hj _ h] at hn;cases hn
  ·rw[I.cl k j hk h] at hn;cases hn
 ·rw[RV hoj h1,Jp,h2,Bool.or_true] at hR;cases hR
def TJ {j:Nat}{oi oj:Oper}{v:Vz}(hj:ops[j]? = some oj)(h1:∀ d,oi.dst=some d->d∉oj.looksAt ops)(h2:∀ d,oi.dst=some d->oj.dst≠some d)
  (hsj:∀ cs b,oj.op≠.select cs b) (hQ:∀ c a w,¬Q (.panic c) a w) {K:Act->World->Prop} {a:Act} {w:World} (h:wpOp P ops Q j K (a.put oi.dst v) w) :
  wpOp P ops Q j (fun a' w'=>K (a'.put oi.dst v) w') a w:=by
 unfold wpOp at *;simp only[hj] at *;rw[wanted_put oj a oi.dst v h1] at h;split
 ·rename_i hw;simp only[hw,if_true] at h;rcases h with h|⟨hasks,hlets⟩
  case inr=>exact .inr ⟨by unfold Oper.asks at *;rw[execOp_put oj hsj a oi.dst v h1] at hasks;exact hasks,hlets⟩
  refine .inl ?_;unfold Oper.wp at *;rw[execOp_put oj hsj a oi.dst v h1] at h;generalize (execOp a.eval oj).run P w=r at *;cases r with
  | ok n w'=>
   cases n<;>simp only[Oper.upon] at h ⊢
   case value u=>rw[<-Act.put_comm a v u h2];exact h
   case skip=>rw[<-Act.put_comm a v undef h2];exact h
   case defer d=>rw[<-Act.put_comm _ v undef h2,<-Act.put_defers];exact h
   case enter f args=>
    refine Calls.mono h fun e w'' he=>?_;cases e with
    | returned u=>dsimp only at he ⊢;rw[<-Act.put_comm a v u h2];exact he
    | panicked c=>exact (hQ _ _ _ he).elim
    | outgrown=>exact he
   case row row args=>exact Rows.mono h fun u w'' he=>by rw[<-Act.put_comm a v u h2];exact he
  | halt x w'=>
   cases x<;>simp only[Oper.upon] at h ⊢
   case panic u=>exact (hQ _ _ _ h).elim
 ·rename_i hw;simp only[hw] at h;rw[<-Act.put_comm a v undef h2];exact h
def Kd (rg:Ml P ops pl){i:Nat}{oi:Oper}{v:Vz}{listed:Array Bool}{R:Nat}{a:Act}{h:H}(hd:∀ (k:Nat) (o:Oper) (d:Nat),ops[k]? = some o->o.dst=some d->d<n)(I:Inv ops pl listed R)(g:Gd n a)
  (hr:i∈Region.ready .any ops listed) (hi:ops[i]? = some oi) (hc:calmB P oi=true) (hy:YN P ops a h oi v) (hG:Mk P ops listed R a h):Mk P ops (listed.setIfInBounds i true) R (a.put oi.dst v) h:=by
 intro k ok hok hck hlk hRk;have hlt:i<listed.size:=by rw[I.size];exact (S3.1 hi).1
 have hRN:RN P ops pl R i=R:=Ky hi hc;have hap:=IL rg I hr hi hok ((Cu hlt).1 hlk) (by rw[hRN];exact hRk);by_cases hki:k=i
 ·subst hki;rw[hi] at hok;cases hok;rw[YN.put hap];exact hy.slot g fun d h=>hd _ _ d hi h
 ·have hlk':listed.getD k false=true:=((Cu hlt).1 hlk).resolve_left hki;rw[YN.put hap,Gb fun x hx=>rg.dist i k oi ok x hi hok (Ne.symm hki) hx];exact hG k ok hok hck hlk' hRk
def first (rg:Ml P ops pl)(hd:∀ (k:Nat) (o:Oper) (d:Nat),ops[k]? = some o->o.dst=some d->d<n)(hQ:∀ c a w,¬Q (.panic c) a w){i:Nat}{oi:Oper}(hi:ops[i]? = some oi)(hc:calmB P oi=true) :
  ∀ (f:Nat) (listed:Array Bool) (R:Nat) (a:Act) (w:World) (v:Vz),Inv ops pl listed R->i∈Region.ready .any ops listed->Gd n a->YN P ops a w.heap oi v->Mk P ops listed R a w.heap ->
   wpX P ops pl n Q f (listed.setIfInBounds i true) R (a.put oi.dst v) w->wpX P ops pl n Q (f+1) listed R a w:=by
 intro f
 induction f with
 | zero=>
  intro listed R a w v I hr g hy hG H;refine⟨fun h=>(by rw[h] at hr;cases hr),fun j hj=>?_⟩;by_cases hji:j=i
  ·subst hji;rw[Ky hi hc];exact hy.wpOp hi hc ⟨g.put _ _,Kd rg hd I g hr hi hc hy hG,H⟩
  ·have:=ready_mono hj hji;rw[H.1] at this;cases this
 | succ f ih=>
  intro listed R a w v I hr g hy hG H;refine⟨fun h=>(by rw[h] at hr;cases hr),fun j hj=>?_⟩;by_cases hji:j=i
  ·subst hji;rw[Ky hi hc];exact hy.wpOp hi hc ⟨g.put _ _,Kd rg hd I g hr hi hc hy hG,H⟩
  ·have hlti:i<listed.size:=by rw[I.size];exact (S3.1 hi).1
   obtain⟨hjn,oj,hoj,_⟩:=Dl I hj;have hin:=(Dl I hr).1;have hltj:j<listed.size:=by rw[I.size];exact (S3.1 hoj).1
   have hnb:hasB (pl.befs.getD j 0) i=false:=by
    cases hb:hasB (pl.befs.getD j 0) i with
    | false=>rfl
    | true=>rw[Jy rg I hj i hb] at hin;cases hin
   have hRi:hasB (RN P ops pl R j) i=false:=by
    cases hb:hasB (RN P ops pl R j) i with
    | false=>rfl
    | true=>
     have:=(I.step rg hj).re i hb;rw[Cu hltj,hin] at this;rcases this with h|h
     ·exact absurd h.symm hji
     ·cases h
   have hap:∀ d,oi.dst=some d->d∉oj.looksAt ops:=fun d h h'=>by
    rcases rg.sep i j oi oj d hi hoj h h' with h3|⟨h3,_⟩
    ·rw[h3] at hnb;cases hnb
    ·rw[hc] at h3;cases h3
   have hself:∀ d,oi.dst=some d->d∉oi.looksAt ops:=IL rg I hr hi hi (.inl rfl) (by
    rw[Ky hi hc];cases hb:hasB R i with
    | false=>rfl
    | true=>rw[I.re i hb] at hin;cases hin)
   have h2:=TJ hoj hap (fun d h=>rg.dist i j oi oj d hi hoj (Ne.symm hji) h) (fun cs b=>rg.nosel j oj cs b hoj) hQ (H.2 j (ready_mono hj hji));refine wpOp_mono (fun a' w' h3=>?_) h2;obtain⟨g3,G3,X3⟩:=h3;have g':Gd n a':=g3.of_put;have I':=I.step rg hj;have hij:i∈Region.ready .any ops (listed.setIfInBounds j true):=ready_mono hr (Ne.symm hji);have y0:=G3 i oi hi hc (by rw[Cu (by simpa using hltj),Cu hlti];exact .inr (.inl rfl)) hRi;rw[YN.put hself] at y0;have hG':Mk P ops (listed.setIfInBounds j true) (RN P ops pl R j) a' w'.heap:=by
    intro k ok hok hck hlk hRk;have hki:k≠i:=by
     rintro rfl;rw[Cu hltj,hin] at hlk;rcases hlk with h|h
     ·exact hji h.symm
     ·cases h
    have y:=G3 k ok hok hck (by
     rw[Cu (by simpa using hltj),Cu hlti];rcases (Cu hltj).1 hlk with h|h
     ·exact .inl h
     ·exact .inr (.inr h)) hRk
    rw[YN.put (fun d h h'=>?_),Gb fun x hx=>rg.dist i k oi ok x hi hok (Ne.symm hki) hx] at y
    ·exact y
    ·rcases rg.sep i k oi ok d hi hok h h' with h3|⟨h3,_⟩
     ·have:=I'.cl k i hlk h3;rw[Cu hltj,hin] at this;rcases this with h|h
      ·exact hji h.symm
      ·cases h
     ·rw[hc] at h3;cases h3
   refine⟨g',hG',ih _ _ a' w' (Hy (a'.put oi.dst v) oi) I' hij g' y0 hG' ?_⟩;have hps:a'.put oi.dst (Hy (a'.put oi.dst v) oi)=a'.put oi.dst v:=AEC.resolve_right fun h=>h fun d h=>by rw[g'.size];exact hd i oi d hi h
   rw[hps,Array.setIfInBounds_comm _ _ hji];exact X3
end
section
variable {P:Program} {ops:Array Oper} {Q:Exit->Act->World->Prop} {pl:Kw} {n:Nat}
def qq (L:Nat)(listed:Array Bool):Prop:=∀ i,listed.getD i false=hasB L i
def qq.step {L i:Nat}{listed:Array Bool}(c:qq L listed)(hi:i<listed.size):qq (L ||| (1 <<< i)) (listed.setIfInBounds i true):=fun k=>by
 rw[Jp,UY,<-c k];cases hk:(listed.setIfInBounds i true).getD k false with
 | true=>
  rcases (Cu hi).1 hk with h|h
  ·simp[h]
  ·rw[h];rfl
 | false=>
  cases hb:(listed.getD k false||decide (k=i)) with
  | false=>rfl
  | true=>
   simp only[N7,W4] at hb;rw[(Cu hi).2 hb.symm] at hk;cases hk
def Hv (rg:Ml P ops pl){L R i:Nat}{listed:Array Bool}(c:qq L listed)(I:Inv ops pl listed R):i∈Region.ready .any ops listed↔i∈Fo L pl.deps 0:=by
 rw[PF];constructor
 ·intro h;obtain⟨h1,o,ho,h2⟩:=Dl I h;refine⟨i,depB o,rg.dep i o ho,by omega,by rw[<-c i];exact h1,Ul.2 fun k hk=>?_⟩;obtain⟨e,h3,h4,h5⟩:=MH.1 hk;rw[<-c k,<-h5];exact h2 e h3 h4
 ·rintro⟨t,d,h1,h2,h3,h4⟩;have:i=t:=by omega
  subst this;have hlt:i<ops.size:=by rw[<-rg.len];exact (G0.1 h1).1
  obtain⟨o,ho⟩:∃ o,ops[i]? = some o:=⟨_,K8 hlt⟩;rw[rg.dep i o ho] at h1;cases h1;refine mem_ready.2 ⟨?_,o,ho,fun e he hb=>?_⟩
  ·rw[<-c i] at h3;have hl:i<listed.size:=by rw[I.size];exact hlt
   simpa[Array.getD,hl] using h3
  ·rw[c e.on];exact Ul.1 h4 _ (MH.2 ⟨e,he,hb,rfl⟩)
def Tp {o:Oper}{ρ:Operand->Vz}{h:H}{k:Kt}(hh:Lf P o ρ h k):Lf P o ρ h fun v h'=>(assignB o=true->h'=h)/\k v h':=by
 cases ha:assignB o with
 | false=>exact Gy (fun v h' hk=>⟨fun hx=>(by cases hx),hk⟩) hh
 | true=>
  obtain⟨dst,op,type,pos,after,guard⟩:=o;unfold Lf at hh ⊢;cases op<;>(try (cases ha;done));exact⟨fun _=>rfl,hh⟩
def nh (hng:Ps P)(rg:Ml P ops pl)(hd:∀ (k:Nat) (o:Oper) (d:Nat),ops[k]? = some o->o.dst=some d->d<n)(hQp:∀ c a w,¬Q (.panic c) a w){w0:World}{K:Env->H->Prop}
  (hQ:∀ a w,Gd n a->Do w0 w->K (Bn a) w.heap->Q .normal a w) :
  ∀ (f L R:Nat) (listed:Array Bool) (a:Act) (w:World),qq L listed->Inv ops pl listed R->Gd n a->Do w0 w->Mk P ops listed R a w.heap->EO P ops pl f L R K (Bn a) w.heap ->
   wpX P ops pl n Q f listed R a w:=by
 intro f
 induction f with
 | zero=>
  intro L R listed a w c I g s G H;unfold EO at H;split at H
  ·rename_i hr;refine⟨List.eq_nil_iff_forall_not_mem.2 fun i hi=>?_,hQ a w g s H⟩;rw[Hv rg c I,hr] at hi;cases hi
  ·exact H.elim
 | succ f ih=>
  intro L R listed a w c I g s G H;unfold EO at H;split at H
  ·rename_i hr;have:Region.ready .any ops listed=[]:=List.eq_nil_iff_forall_not_mem.2 fun i hi=>by
    rw[Hv rg c I,hr] at hi;cases hi
   exact⟨fun _=>hQ a w g s H,fun j hj=>by rw[this] at hj;cases hj⟩
  ·rename_i hne;split at H
   ·rename_i i hfc;obtain⟨hi1,hi2⟩:=JI _ hfc;have hir:=(Hv rg c I).2 hi1;obtain⟨_,oi,hoi,_⟩:=Dl I hir;have hc:calmB P oi=true:=by rw[<-rg.calm i oi hoi];exact hi2
    have hlt:i<listed.size:=by rw[I.size];exact (S3.1 hoi).1
    unfold KX at H;simp only[hoi] at H;have done:∀ v,YN P ops a w.heap oi v->EO P ops pl f (L ||| (1 <<< i)) R K (Ss (Bn a) oi.dst v) w.heap->wpX P ops pl n Q (f+1) listed R a w:=by
     intro v hy hk;rw[<-LM g (hd i oi · hoi)] at hk;refine first rg hd hQp hoi hc f listed R a w v I hir g hy G ?_
     have I':=I.step rg hir;rw[Ky hoi hc] at I';exact ih _ _ _ _ _ (c.step hlt) I' (g.put _ _) s (Kd rg hd I g hir hoi hc hy G) hk
    rcases Jo H with⟨hw,hA⟩|⟨hw,hB⟩
    ·obtain⟨v,hk,hv⟩:=s5 hc hA;refine done v (.inl ⟨hw,?_⟩) hk;rw[JF] at hv;exact Gy (fun _ _ h _=>h) hv
    ·exact done undef (.inr ⟨hw,rfl⟩) hB
   ·rename_i hfc;have hcl:=JH _ hfc;have hal:=OB _ H;refine⟨fun h0=>absurd h0 fun h0=>?_,fun j hj=>?_⟩
    ·cases hr:Fo L pl.deps 0 with
     | nil=>exact hne hr
     | cons x l=>
      have:x∈Region.ready .any ops listed:=(Hv rg c I).2 (by rw[hr];exact T0 ..);rw[h0] at this;cases this
    ·have hjr:=(Hv rg c I).1 hj;obtain⟨_,oj,hoj,_⟩:=Dl I hj;have hc:calmB P oj=false:=by rw[<-rg.calm j oj hoj];exact hcl j hjr
     have hlt:j<listed.size:=by rw[I.size];exact (S3.1 hoj).1
     have hs:=hal j hjr;unfold KX at hs;simp only[hoj] at hs;have I':=I.step rg hj;rw[RV hoj hc] at I' ⊢;have hold:∀ k ok,ops[k]? = some ok->calmB P ok=true->(listed.setIfInBounds j true).getD k false=true->hasB (R ||| pl.befs.getD j 0) k=false ->
       k≠j/\YN P ops a w.heap ok (Hy a ok)/\(∀ x,oj.dst=some x->x∉ok.looksAt ops)/\(∀ x,oj.dst=some x->ok.dst≠some x):=by
      intro k ok hok hck hlk hRk;have hkj:k≠j:=by rintro rfl;rw[hoj] at hok;cases hok;rw[hc] at hck;cases hck
      have hlk':=((Cu hlt).1 hlk).resolve_left hkj;have hRk':hasB R k=false:=by
       rw[Jp,Bool.or_eq_false_iff] at hRk;exact hRk.1
      exact⟨hkj,G k ok hok hck hlk' hRk',IL rg I hj hoj hok (.inr hlk') (by rw[RV hoj hc];exact hRk),fun x hx=>rg.dist j k oj ok x hoj hok (Ne.symm hkj) hx⟩
     unfold wpOp;simp only[hoj];rcases Jo hs with⟨hw,hA⟩|⟨hw,hB⟩
     ·rw[D0 hw];refine .inl (kz hng (Tp hA) fun v w' sd hk=>?_);obtain⟨hsame,hk⟩:=hk;rw[<-LM g (hd j oj · hoj)] at hk;obtain⟨hk,hks⟩:=Mq _ hk;have G':Mk P ops (listed.setIfInBounds j true) (R ||| pl.befs.getD j 0) (a.put oj.dst v) w'.heap:=by
       intro k ok hok hck hlk hRk;obtain⟨hkj,hy,hap,hds⟩:=hold k ok hok hck hlk hRk;rw[Gb hds];by_cases hH:w'.heap=w.heap
       ·rw[YN.put hap,hH];exact hy
       ·cases hl:looksB P ok with
        | false=>
         rw[YN.put hap];rcases hy with⟨h1,h2⟩|h
         ·exact .inl ⟨h1,sy (φ:=fun v'=>ok.dst.isSome=true->v'=Hy a ok) hck hl h2⟩
         ·exact .inr h
        | true=>
         have hasg:pl.asg.getD j false=false:=by
          rw[rg.asg j oj hoj];cases ha:assignB oj with
          | false=>rfl
          | true=>exact absurd (hsame ha) hH
         rw[hasg] at hks;have hm:k∈Kg (L ||| (1 <<< j)) (R ||| pl.befs.getD j 0) pl.looks 0:=PD _ 0 k (by rw[rg.looks k ok hok,hl]) (by omega) (by rw[<-c.step hlt];exact hlk) hRk;obtain⟨ok',hok',hg⟩:=hks k hm;rw[hok] at hok';cases hok';rcases Jo hg with⟨hw1,hg⟩|⟨hw1,_⟩
         ·refine .inl ⟨hw1,?_⟩;rw[JF] at hg;refine Gy (fun v' _ hv' hsm=>?_) hg;rw[hv',<-Gb hds (u:=v)];unfold Hy;cases hod:ok.dst with
          | none=>rfl
          | some d=>rfl
         ·rw[wanted_put ok a oj.dst v hap] at hw1;rcases hy with⟨h1,_⟩|⟨_,h2⟩
          ·rw[hw1] at h1;cases h1
          ·exact .inr ⟨by rw[wanted_put ok a oj.dst v hap];exact hw1,h2⟩
      exact⟨g.put _ _,G',ih _ _ _ _ _ (c.step hlt) I' (g.put _ _) ⟨sd.1.trans s.1,sd.2.trans s.2⟩ G' hk⟩
     ·rw[F0 (by rw[hw];decide)];rw[<-LM g (hd j oj · hoj)] at hB;have G':Mk P ops (listed.setIfInBounds j true) (R ||| pl.befs.getD j 0) (a.put oj.dst undef) w.heap:=by
       intro k ok hok hck hlk hRk;obtain⟨hkj,hy,hap,hds⟩:=hold k ok hok hck hlk hRk;rw[Gb hds,YN.put hap];exact hy
      exact⟨g.put _ _,G',ih _ _ _ _ _ (c.step hlt) I' (g.put _ _) s G' hB⟩
end
def wfC (P:Program)(n:Nat):Code->Bool
 | .region _ ops draw=>(ops.toList.all fun o=>match o.dst with|some d=>Nat.blt d n|none=>true)&&bif draw then AON P ops&&Region.noSelect ops else true
 | .seq a b=>wfC P n a&&wfC P n b
 | .cond _ a b=>wfC P n a&&wfC P n b
 | .block _ b=>wfC P n b
 | .loop b=>wfC P n b
 | _=>true
def wfB (P:Program)(k:Nat)(fn:Func):Bool:=fn.body.isSome&&Nat.ble k fn.ntmps&&wfC P fn.ntmps (Fj fn)&&fn.results.toList.all fun|.cell _ t=>GA P t|_=>true
section
variable {P:Program} {n:Nat}
def QQ (Kn Kr:Env->H->Prop)(Kx:Nat->Env->H->Prop)(n:Nat)(w0:World):Exit->Act->World->Prop
 | .normal,a,w=>Gd n a/\Do w0 w/\Kn (Bn a) w.heap
 | .ret,a,w=>Gd n a/\Do w0 w/\Kr (Bn a) w.heap
 | .exit i,a,w=>Gd n a/\Do w0 w/\Kx i (Bn a) w.heap
 | _,_,_=>False
def ADo {p:Nat->Prop}:∀ m,p m->∃ m,p m/\∀ k,p k->m<=k:=by
 intro m
 induction m using Nat.strongRecOn with
 | _ m ih=>
  intro hm;by_cases h:∃ k,k<m/\p k
  ·obtain⟨k,hk,hp⟩:=h;exact ih k hk hp
  ·exact⟨m,hm,fun k hk=>Nat.le_of_not_lt fun hlt=>h ⟨k,hlt,hk⟩⟩
def WR (hng:Ps P)(hm:P.follows .mixedOrders=true){w0:World}(c:Code){Kn Kr:Env->H->Prop}{Kx:Nat->Env->H->Prop}(hc:wfC P n c=true) :
  ∀ (a:Act) (w:World),Gd n a->Do w0 w->Dv P c Kn Kr Kx (Bn a) w.heap->c.wp P (QQ Kn Kr Kx n w0) a w:=by
 induction c generalizing Kn Kx with
 | skip=>exact fun a w g s h=>wp_skip ⟨g,s,h⟩
 | region id ops draw=>
  intro a w g s h;unfold Dv at h;simp only[wfC,W2] at hc;cases draw with
  | false=>
   exact wp_region_list (Ma hng (fun a w g s h=>⟨g,s,h⟩) ops.toList a w hc.1 g s h)
  | true=>
   have h2:=hc.2;simp only[cond,W2] at h2;have hd:∀ (k:Nat) (o:Oper) (d:Nat),ops[k]? = some o->o.dst=some d->d<n:=fun k o d ho hd=>by
    have:=K5.1 hc.1 o (Array.mem_toList_iff.2 (P7 ho));rw[hd] at this;simpa using this
   have hf:∀ i,(Array.replicate ops.size false).getD i false=false:=fun i=>by
    rw[Q5,Array.getElem?_replicate];split<;>rfl
   refine wp_region_any hm (Pp _ _ 0 _ _ (nh hng (AEE h2.1 h2.2) hd (fun c a w h=>h) (fun a w g s h=>⟨g,s,h⟩) ops.size 0 0 _ a {w with drawn:=w.drawn+1} ?_ ?_ g s ?_ h))
   ·exact fun i=>by rw[hf,Hk]
   ·exact⟨by simp,fun m k hm=>(by rw[hf] at hm;cases hm),fun k hk=>(by rw[Hk] at hk;cases hk)⟩
   ·exact fun k o _ _ hl=>by rw[hf] at hl;cases hl
 | seq x y ihx ihy=>
  intro a w g s h;simp only[wfC,W2] at hc;refine wp_seq (Code.wp_mono (fun e a w q=>?_) (ihx (Kn:=Dv P y Kn Kr Kx) hc.1 a w g s h));cases e<;>first|exact ihy hc.2 a w q.1 q.2.1 q.2.2|exact q
 | cond c x y ihx ihy=>
  intro a w g s h;simp only[wfC,W2] at hc;cases c with
  | tmp t=>
   unfold Dv at h;rcases Uf h with⟨h1,h2⟩|⟨h1,h2⟩
   ·rw[Jc h1] at h2;exact wp_cond_true h1 (ihx hc.1 a w g s h2)
   ·rw[Jc h1] at h2;exact wp_cond_false h1 (ihy hc.2 a w g s h2)
  | _=>exact h.elim
 | block id b ih=>
  intro a w g s h;refine wp_block (Code.wp_mono (fun e a w q=>?_) (ih (Kn:=Kn) (Kx:=fun i=>bif Nat.beq i id then Kn else Kx i) hc a w g s h));cases e<;>first|exact q|skip
  rename_i i;obtain⟨q1,q2,q3⟩:=q;show if i=id then _ else _
  by_cases hi:i=id
  ·rw[D0 hi];subst hi;rw[Nat.beq_refl] at q3;exact⟨q1,q2,q3⟩
  ·rw[F0 hi];have:Nat.beq i id=false:=by
    cases hb:Nat.beq i id with
    | false=>rfl
    | true=>exact absurd (W7 hb) hi
   rw[this] at q3;exact⟨q1,q2,q3⟩
 | exit id=>exact fun a w g s h=>wp_exit ⟨g,s,h⟩
 | ret=>exact fun a w g s h=>wp_ret ⟨g,s,h⟩
 | loop b ih=>
  intro a w g s h;unfold Dv at h;obtain⟨I,⟨m0,h0⟩,hs⟩:=h
  classical
  let J:Act->World->Prop:=fun a w=>Gd n a/\Do w0 w/\∃ m,I m (Bn a) w.heap
  let μ:Act->World->Nat:=fun a w=>if hx:∃ m,I m (Bn a) w.heap then (ADo (p:=fun m=>I m (Bn a) w.heap) hx.choose hx.choose_spec).choose else 0
  have hμ:∀ a w,J a w->I (μ a w) (Bn a) w.heap/\∀ k,I k (Bn a) w.heap->μ a w<=k:=by
   rintro a w ⟨_,_,hx⟩;have:μ a w=(ADo (p:=fun m=>I m (Bn a) w.heap) hx.choose hx.choose_spec).choose:=dif_pos hx;rw[this];exact (ADo (p:=fun m=>I m (Bn a) w.heap) hx.choose hx.choose_spec).choose_spec
  refine wp_loop J μ ⟨g,s,m0,h0⟩ fun a w hJ=>?_;have h1:=hs _ _ _ (hμ a w hJ).1;refine Code.wp_mono (fun e a' w' q=>?_) (ih (Kn:=fun e' h'=>∃ m',m'<μ a w/\I m' e' h') (Kx:=Kx) hc a w hJ.1 hJ.2.1 h1);cases e<;>first|exact q|skip
  obtain⟨q1,q2,m',q3,q4⟩:=q;have hJ':J a' w':=⟨q1,q2,m',q4⟩;exact⟨hJ',U6 ((hμ a' w' hJ').2 m' q4) q3⟩
 | _=>exact fun a w g s h=>h.elim
def VX {fn:Func}{a:Act}{w:World}{k:Kt}(hok:(fn.results.toList.all fun|.cell _ t=>GA P t|_=>true)=true)(h:KQ P fn.results.toList (Bn a) w.heap k) :
  ∃ v,(results fn a.tmps).run P w=.ok v w/\k v w.heap:=by
 obtain⟨rs,hrs⟩:∃ rs,fn.results=rs:=⟨_,rfl⟩;obtain⟨rs⟩:=rs;unfold results;rw[hrs] at h hok ⊢;have hcell:∀ {x:Tmp} {t:Tj} {v:Vz} {p:Addr},GA P t=true->Bn a x=.pointer (some p)->Qw (DD P t) (BM P t) w.heap p=some v ->
   (asAddr (a.tmps[x]?.getD undef)).run P w=.ok p w/\(loadVar t p).run P w=.ok v w:=fun ho he hv=>by
  unfold Bn at he;rw[Q5] at he;rw[he];exact⟨rfl,JT ho hv⟩
 unfold KQ at h;dsimp only at h hok;split at h
 ·refine⟨_,?_,h⟩;simp[Bn]
 ·refine⟨_,?_,h⟩;simp[Bn]
 ·rename_i x t;simp only[U7,List.all_nil,Bool.and_true] at hok;obtain⟨p,v,h1,h2,h3⟩:=h;refine⟨v,?_,h3⟩;obtain⟨e1,e2⟩:=hcell hok h1 h2;simp[Bn,e1,e2]
 ·refine⟨_,?_,h⟩;simp[Bn]
 ·refine⟨_,?_,h⟩;simp[Bn]
 ·refine⟨_,?_,h⟩;simp[Bn]
 ·rename_i x t u;simp only[U7,List.all_nil,Bool.and_true] at hok;obtain⟨p,v,h1,h2,h3⟩:=h;refine⟨_,?_,h3⟩;obtain⟨e1,e2⟩:=hcell hok h1 h2;simp[Bn,e1,e2]
 ·rename_i u x t;simp only[U7,List.all_nil,Bool.and_true] at hok;obtain⟨p,v,h1,h2,h3⟩:=h;refine⟨_,?_,h3⟩;obtain⟨e1,e2⟩:=hcell hok h1 h2;simp[Bn,e1,e2]
 ·exact h.elim
def tt {args:List Vz}{m:Nat}:Bn {tmps:=args.toArray++Array.replicate m undef,defers:=[]}=tq args:=by
 funext i;show (args.toArray++Array.replicate m undef).getD i undef=args.getD i undef;rw[Q5,Array.getElem?_append,W0];simp only[O2];by_cases hi:i<args.length
 ·simp[hi]
 ·simp only[hi,if_false,Array.getElem?_replicate,D3 (Nat.le_of_not_lt hi)];split<;>rfl
def WP (hng:Ps P)(hm:P.follows .mixedOrders=true){f:FuncId}{fn:Func}{args:List Vz}{h:H}{Q:Kt}(hf:P.funcs[f]? = some fn)
  (hw:wfB P args.length fn=true) {Kn:Env->H->Prop} (hK:Kn=fun e h=>KQ P fn.results.toList e h Q) (H1:Dv P (Fj fn) Kn Kn (fun _ _ _=>False) (tq args) h):Call P f args h Q:=by
 intro w hh;subst hh;simp only[wfB,W2] at hw;obtain⟨⟨⟨hb,hle⟩,hwf⟩,hok⟩:=hw;obtain⟨c,hc⟩:=Option.isSome_iff_exists.1 hb;have hcode:Fj fn=c:=by unfold Fj;rw[hc];rfl
 rw[hcode] at hwf H1;refine calls_of_wp hf hc (Code.wp_mono (fun e a w' q=>?_) (WR hng hm (w0:=w) c hwf _ w ?_ BX (by rw[tt];exact H1)))
 ·have fin:Gd fn.ntmps a/\Do w w'/\Kn (Bn a) w'.heap->a.defers=[]/\∃ v,(results fn a.tmps).run P w'=.ok v w'/\mw w Q (.returned v) w':=by
   rintro⟨q1,q2,q3⟩;rw[hK] at q3;obtain⟨v,hr,hk⟩:=VX hok q3;exact⟨q1.defers,v,hr,q2,hk⟩
  cases e<;>first|exact fin q|exact q.elim|exact q.2.2.elim
 ·have:args.length<=fn.ntmps:=Nat.le_of_ble_eq_true hle;exact⟨by simp;omega,rfl⟩
end
def ARz:Ps TP:=by
 have h:(TP.funcs.toList.all fun fn=>!(fn.body.isSome&&(fn.name == "runtime.NumGoroutine")))=true:=by kernel_rfl
 intro f fn hf hb;have:=K5.1 h fn (Array.mem_toList_iff.2 (P7 hf));simp only[hb,Bool.true_and,M7] at this;exact this
def mixed:TP.follows .mixedOrders=true:=by kernel_rfl
def AE8 {n:FuncId}{fn:Func}{args:List Vz}{h:H}{Q:Kt}(hf:TP.funcs[n]? = some fn)(hw:wfB TP args.length fn=true){Kn:Env->H->Prop}
  (hK:Kn=fun e h=>KQ TP fn.results.toList e h Q) (H1:Dv TP (Fj fn) Kn Kn (fun _ _ _=>False) (tq args) h):Call TP n args h Q:=
 WP ARz mixed hf hw hK H1
abbrev AE:Vz:=.bool false
abbrev AI:Vz:=.bool true
abbrev AF:Vz:=.int .i64 0
abbrev AX:Vz:=.int .i64 1
abbrev Bz:Vz:=.int .u16 16384
abbrev BP:Vz:=.int .u32 0
abbrev BW:Vz:=.int .u32 1
abbrev AO:Vz:=.int .u64 0
abbrev Bv:Vz:=.int .u64 12
abbrev Aq:Vz:=.int .u64 1
abbrev Bm:Vz:=.int .u64 32768
abbrev Bw:Vz:=.int .u64 32
abbrev BE:Vz:=.int .u8 0
abbrev cst__map_none:Vz:=.map none
abbrev Au:Vz:=.pointer none
abbrev cst__slice_none_0_0:Vz:=.slice none 0 0
abbrev Ax:Vz:=.int .u8 0
abbrev Al:Vz:=.int .u32 0
abbrev Ex:Vz:=.int .u16 0
abbrev AB (n:Int):Vz:=.int .i64 n
abbrev AH (n:Int):Vz:=.int .u64 n
abbrev AM (n:Int):Vz:=.int .u32 n
abbrev cU16 (n:Int):Vz:=.int .u16 n
abbrev Cx (n:Int):Vz:=.int .u8 n
abbrev EP:=Env->H->Prop
abbrev Rec:=List Vz->H->Prop
abbrev RS:=Nat->Rec
def OA (B:Rec->List Vz->H->Prop)(l:List Vz)(h:H):Prop:=∃ I:Nat->List Vz->H->Prop,(∃ m,I m l h)/\∀ m l h,I m l h->B (fun l h=>∃ m',m'<m/\I m' l h) l h
def gl (l:List Vz)(i:Nat):Vz:=l.getD i undef
def u0 (s:Rec)(h:H):Prop:=s [] h
def u1 (s:Rec)(a:Vz)(h:H):Prop:=s [a] h
def u2 (s:Rec)(a b:Vz)(h:H):Prop:=s [a,b] h
def u3 (s:Rec)(a b c:Vz)(h:H):Prop:=s [a,b,c] h
def u4 (s:Rec)(a b c d:Vz)(h:H):Prop:=s [a,b,c,d] h
def u5 (s:Rec)(a b c d e:Vz)(h:H):Prop:=s [a,b,c,d,e] h
abbrev R0:=H->Prop
abbrev R1:=Vz->R0
abbrev R2:=Vz->R1
abbrev R3:=Vz->R2
abbrev R4:=Vz->R3
abbrev R5:=Vz->R4
def Nz (B:R0->R0):R0:=OA (fun s _=>B (u0 s)) []
def BQ (B:R1->R1)(a:Vz):R0:=OA (fun s l=>B (u1 s) (gl l 0)) [a]
def Ca (B:R2->R2)(a b:Vz):R0:=OA (fun s l=>B (u2 s) (gl l 0) (gl l 1)) [a,b]
def Kv (B:R3->R3)(a b c:Vz):R0:=OA (fun s l=>B (u3 s) (gl l 0) (gl l 1) (gl l 2)) [a,b,c]
def AH1 (B:R4->R4)(a b c d:Vz):R0:=OA (fun s l=>B (u4 s) (gl l 0) (gl l 1) (gl l 2) (gl l 3)) [a,b,c,d]
def AH2 (B:R5->R5)(a b c d e:Vz):R0:=OA (fun s l=>B (u5 s) (gl l 0) (gl l 1) (gl l 2) (gl l 3) (gl l 4)) [a,b,c,d,e]
section
variable {h:H} {a b c d e:Vz}
def AKq {B:R0->R0}(I:Nat->R0)(m:Nat)(h0:I m h)(step:∀ (rec:R0) (m:Nat) (h:H),I m h->(∀ (m':Nat) (h':H),I m' h'->m'<m->rec h')->B rec h):Nz B h:=
 ⟨fun m l h=>l=[]/\I m h,⟨m,rfl,h0⟩,fun m _ h ⟨_,hI⟩=>step _ m h hI fun m' h' hi hl=>⟨m',hl,rfl,hi⟩⟩
def Bj {B:R1->R1}(I:Nat->R1)(m:Nat)(h0:I m a h)(step:∀ (rec:R1) (m:Nat) (u0:Vz) (h:H),I m u0 h->(∀ (m':Nat) (v0:Vz) (h':H),I m' v0 h'->m'<m->rec v0 h')->B rec u0 h):BQ B a h:=
 ⟨fun m l h=>∃ a,l=[a]/\I m a h,⟨m,_,rfl,h0⟩,fun m _ h ⟨_,e,hI⟩=>e▸step _ m _ h hI fun m' _ h' hi hl=>⟨m',hl,_,rfl,hi⟩⟩
def DF {B:R2->R2}(I:Nat->R2)(m:Nat)(h0:I m a b h)(step:∀ (rec:R2) (m:Nat) (u0 u1:Vz) (h:H),I m u0 u1 h->(∀ (m':Nat) (v0 v1:Vz) (h':H),I m' v0 v1 h'->m'<m->rec v0 v1 h')->B rec u0 u1 h):Ca B a b h:=
 ⟨fun m l h=>∃ a b,l=[a,b]/\I m a b h,⟨m,_,_,rfl,h0⟩,fun m _ h ⟨_,_,e,hI⟩=>e▸step _ m _ _ h hI fun m' _ _ h' hi hl=>⟨m',hl,_,_,rfl,hi⟩⟩
def Ms {B:R3->R3}(I:Nat->R3)(m:Nat)(h0:I m a b c h)(step:∀ (rec:R3) (m:Nat) (u0 u1 u2:Vz) (h:H),I m u0 u1 u2 h->(∀ (m':Nat) (v0 v1 v2:Vz) (h':H),I m' v0 v1 v2 h'->m'<m->rec v0 v1 v2 h')->B rec u0 u1 u2 h):Kv B a b c h:=
 ⟨fun m l h=>∃ a b c,l=[a,b,c]/\I m a b c h,⟨m,_,_,_,rfl,h0⟩,fun m _ h ⟨_,_,_,e,hI⟩=>e▸step _ m _ _ _ h hI fun m' _ _ _ h' hi hl=>⟨m',hl,_,_,_,rfl,hi⟩⟩
def APX {B:R4->R4}(I:Nat->R4)(m:Nat)(h0:I m a b c d h)(step:∀ (rec:R4) (m:Nat) (u0 u1 u2 u3:Vz) (h:H),I m u0 u1 u2 u3 h->(∀ (m':Nat) (v0 v1 v2 v3:Vz) (h':H),I m' v0 v1 v2 v3 h'->m'<m->rec v0 v1 v2 v3 h')->B rec u0 u1 u2 u3 h):AH1 B a b c d h:=
 ⟨fun m l h=>∃ a b c d,l=[a,b,c,d]/\I m a b c d h,⟨m,_,_,_,_,rfl,h0⟩,fun m _ h ⟨_,_,_,_,e,hI⟩=>e▸step _ m _ _ _ _ h hI fun m' _ _ _ _ h' hi hl=>⟨m',hl,_,_,_,_,rfl,hi⟩⟩
def APY {B:R5->R5}(I:Nat->R5)(m:Nat)(h0:I m a b c d e h)(step:∀ (rec:R5) (m:Nat) (u0 u1 u2 u3 u4:Vz) (h:H),I m u0 u1 u2 u3 u4 h->(∀ (m':Nat) (v0 v1 v2 v3 v4:Vz) (h':H),I m' v0 v1 v2 v3 v4 h'->m'<m->rec v0 v1 v2 v3 v4 h')->B rec u0 u1 u2 u3 u4 h):AH2 B a b c d e h:=
 ⟨fun m l h=>∃ a b c d e,l=[a,b,c,d,e]/\I m a b c d e h,⟨m,_,_,_,_,_,rfl,h0⟩,fun m _ h ⟨_,_,_,_,_,e,hI⟩=>e▸step _ m _ _ _ _ _ h hI fun m' _ _ _ _ _ h' hi hl=>⟨m',hl,_,_,_,_,_,rfl,hi⟩⟩
def ANW {B:R0->R0}(x:∃ I:Nat->R0,(∃ m,I m h)/\∀ m h,I m h->B (fun h=>∃ m',m'<m/\I m' h) h):Nz B h:=by
 obtain⟨I,⟨m,h0⟩,hs⟩:=x;exact⟨fun m l h=>I m h,⟨m,h0⟩,fun m _ h hI=>hs m h hI⟩
def ADq {B:R1->R1}(x:∃ I:Nat->R1,(∃ m,I m a h)/\∀ m a h,I m a h->B (fun a h=>∃ m',m'<m/\I m' a h) a h):BQ B a h:=by
 obtain⟨I,⟨m,h0⟩,hs⟩:=x;exact⟨fun m l h=>I m (gl l 0) h,⟨m,h0⟩,fun m _ h hI=>hs m _ h hI⟩
end
inductive Cut where
 | no
 | jn (J:EP)
 | lp (cs vs:List Nat) (B:Rec->Env->List Vz->H->Prop)
def tab:List (Nat×Cut)->Nat->Cut
 | [],_=>.no
 | (k,c)::l,q=>bif Nat.beq k q then c else tab l q
def rst (cs:List Nat)(e:Env):Env:=fun j=>bif cs.any (Nat.beq j) then e j else undef
def ARI (rs:RS)(p:Nat)(r:Rec):RS:=fun q=>bif Nat.beq q p then r else rs q
def APS (C:Cut)(K:EP):EP:=match C with|.jn J=>J|_=>K
def APZ (C:Cut)(K:EP):EP:=match C with|.lp cs vs B=>fun e h=>OA (fun s l h=>B s (rst cs e) l h) (vs.map e) h|_=>K
section
variable (P:Program) (T:RS->Nat->Cut)
def JW (rs:RS):Nat->Code->EP->EP->(Nat->EP)->EP
 | p,.seq a b,Kn,Kr,Kx=>JW rs (2*p) a (APS (T rs (2*(2*p+1))) (JW rs (2*p+1) b Kn Kr Kx)) Kr Kx
 | p,.cond (.tmp t) a b,Kn,Kr,Kx=>fun e h=>BJ (e t) (JW rs (2*p) a Kn Kr Kx (QE e t (.bool true)) h) (JW rs (2*p+1) b Kn Kr Kx (QE e t (.bool false)) h)
 | p,.block id b,Kn,Kr,Kx=>JW rs (2*p) b Kn Kr (fun i=>bif Nat.beq i id then Kn else Kx i)
 | p,.loop b,Kn,Kr,Kx=>APZ (T rs (2*p+1)) fun _ _=>False
 | _,c,Kn,Kr,Kx=>Dv P c Kn Kr Kx
inductive Tr where
 | nil
 | eq (a:EP) (t u:Tr)
 | all (k:Bool) (f:Rec->EP) (g:Rec->Tr)
 | two (a b:Tr)
def FD (s:Bool)(rs:RS):Nat->Code->EP->EP->(Nat->EP)->Tr
 | p,.seq a b,Kn,Kr,Kx=>match T rs (2*(2*p+1)) with
  | .jn J=>.eq (bif s then JW P T rs (2*p+1) b Kn Kr Kx else J) (FD s rs (2*p+1) b Kn Kr Kx) (FD s rs (2*p) a J Kr Kx)
  | _=>.two (FD s rs (2*p+1) b Kn Kr Kx) (FD s rs (2*p) a (JW P T rs (2*p+1) b Kn Kr Kx) Kr Kx)
 | p,.cond (.tmp _) a b,Kn,Kr,Kx=>.two (FD s rs (2*p) a Kn Kr Kx) (FD s rs (2*p+1) b Kn Kr Kx)
 | p,.block id b,Kn,Kr,Kx=>FD s rs (2*p) b Kn Kr (fun i=>bif Nat.beq i id then Kn else Kx i)
 | p,.loop b,_,Kr,Kx=>match T rs (2*p+1) with
  | .lp cs vs B=>.all (bif s then true else JL cs b) (fun r=>bif s then JW P T (ARI rs p r) (2*p) b (fun e h=>r (vs.map e) h) Kr Kx else fun e h=>B r (rst cs e) (vs.map e) h)
    fun r=>FD s (ARI rs p r) (2*p) b (fun e h=>r (vs.map e) h) Kr Kx
  | _=>.nil
 | _,_,_,_,_=>.nil
variable {P T}
def AEJ {cs:List Nat}{e e':Env}(h:Kz cs e e'):rst cs e'=rst cs e:=by
 funext j;unfold rst;cases hj:cs.any (Nat.beq j) with
 | false=>rfl
 | true=>
  obtain⟨i,hi,hb⟩:=List.any_eq_true.1 hj;have:j=i:=W7 hb;subst this;exact h j hi
def AHT (c:Code):∀ (rs:RS) (p:Nat) (Kn Kr:EP) (Kx:Nat->EP),FD P T false rs p c Kn Kr Kx=FD P T true rs p c Kn Kr Kx->∀ e h,JW P T rs p c Kn Kr Kx e h->Dv P c Kn Kr Kx e h:=by
 induction c with
 | seq a b iha ihb=>
  intro rs p Kn Kr Kx ht e h hx;unfold FD at ht;unfold JW at hx;unfold Dv;cases hc:T rs (2*(2*p+1)) with
  | jn J=>
   rw[hc] at ht hx;simp only[cond,Tr.eq.injEq] at ht;obtain⟨h1,h2,h3⟩:=ht;refine Hx a (fun e h x=>ihb rs _ Kn Kr Kx h2 e h ?_) (fun _ _ x=>x) (fun _ _ _ x=>x) e h (iha rs _ J Kr Kx h3 e h hx);rw[<-h1];exact x
  | _=>
   rw[hc] at ht hx;simp only[Tr.two.injEq] at ht;exact Hx a (fun e h x=>ihb rs _ Kn Kr Kx ht.1 e h x) (fun _ _ x=>x) (fun _ _ _ x=>x) e h (iha rs _ _ Kr Kx ht.2 e h hx)
 | cond c a b iha ihb=>
  intro rs p Kn Kr Kx ht e h hx;cases c with
  | tmp t=>
   unfold FD at ht;simp only[Tr.two.injEq] at ht;unfold JW at hx;unfold Dv;exact Ue (iha rs _ Kn Kr Kx ht.1 _ _) (ihb rs _ Kn Kr Kx ht.2 _ _) hx
  | _=>unfold JW at hx;exact hx
 | block id b ih=>
  intro rs p Kn Kr Kx ht e h hx;unfold FD at ht;unfold JW at hx;unfold Dv;exact ih rs _ Kn Kr _ ht e h hx
 | loop b ih=>
  intro rs p Kn Kr Kx ht e h hx;unfold FD at ht;unfold JW at hx;cases hc:T rs (2*p+1) with
  | lp cs vs B=>
   rw[hc] at ht hx;simp only[cond,Tr.all.injEq] at ht;obtain⟨h1,h2,h3⟩:=ht;obtain⟨I,⟨m,hm⟩,hs⟩:=hx;unfold Dv;refine qt cs h1 (fun m e h=>I m (vs.map e) h) m hm fun m e' h' hsame hI=>?_;have hb:=hs _ _ _ hI;rw[<-AEJ (e:=e) (e':=e') hsame] at hb;have e1:=congrFun (congrFun (congrFun h2 fun l h=>∃ m',m'<m/\I m' l h) e') h';exact ih _ _ _ Kr Kx (congrFun h3 _) e' h' (by rw[<-e1];exact hb)
  | _=>rw[hc] at hx;exact hx.elim
 | _=>intro rs p Kn Kr Kx ht e h hx;unfold JW at hx;exact hx
def okX {n:FuncId}{fn:Func}{args:List Vz}{h:H}{Q:Kt}{A:Prop}(T:RS->Nat->Cut)(hf:TP.funcs[n]? = some fn)
  (hk:(wfB TP args.length fn,FD TP T false (fun _ _ _=>False) 1 (Fj fn) (fun e h=>KQ TP fn.results.toList e h Q) (fun e h=>KQ TP fn.results.toList e h Q) (fun _ _ _=>False),A) =
   (true,FD TP T true (fun _ _ _=>False) 1 (Fj fn) (fun e h=>KQ TP fn.results.toList e h Q) (fun e h=>KQ TP fn.results.toList e h Q) (fun _ _ _=>False),
    JW TP T (fun _ _ _=>False) 1 (Fj fn) (fun e h=>KQ TP fn.results.toList e h Q) (fun e h=>KQ TP fn.results.toList e h Q) (fun _ _ _=>False) (tq args) h)) (x:A):Call TP n args h Q:=by
 simp only[D7] at hk;obtain⟨h1,h2,h3⟩:=hk;exact AE8 hf h1 rfl (AHT _ _ _ _ _ _ h2 _ _ (by rw[<-h3];exact x))
end
section
section
inductive RC where
 | no|one (o:Obj)|bad
def RC.add:RC->RC->RC
 | .no,x=>x
 | x,.no=>x
 | _,_=>.bad
def Res:=Nat->RC
def pts (b:Nat)(o:Obj):Res:=fun i=>if i=b then .one o else .no
instance:Add Res:=⟨fun x y i=>(x i).add (y i)⟩
instance:Zero Res:=⟨fun _=>.no⟩
theorem Res.add_at (x y:Res)(i:Nat):(x+y) i=(x i).add (y i):=rfl
def Res.comm (x y:Res):x+y=y+x:=by
 funext i;rw[Res.add_at,Res.add_at];cases x i<;>cases y i<;>rfl
def Res.assoc (x y z:Res):x+y+z=x+(y+z):=by
 funext i;rw[Res.add_at,Res.add_at,Res.add_at,Res.add_at];cases x i<;>cases y i<;>cases z i<;>rfl
theorem Res.zero_add (x:Res):0+x=x:=rfl
def Res.add_zero (x:Res):x+0=x:=by rw[Res.comm];rfl
instance:Std.Commutative (α:=Res) (· + ·):=⟨Res.comm⟩
instance:Std.Associative (α:=Res) (· + ·):=⟨Res.assoc⟩
def Res.left_comm (x y z:Res):x+(y+z)=y+(x+z):=by rw[<-Res.assoc,Res.comm x y,Res.assoc]
def AN (x:Res)(h:H):Prop:=∀ b,match x b with|.no=>True|.one o=>h[b]? = some o|.bad=>False
def AN.left {x y:Res}{h:H}(w:AN (x+y) h):AN x h:=fun b=>by
 have:=w b;rw[Res.add_at] at this;revert this;cases x b<;>cases y b<;>intro this<;>first|trivial|exact this|exact this.elim
def AN.right {x y:Res}{h:H}(w:AN (x+y) h):AN y h:=by rw[Res.comm] at w;exact w.left
def AN.one {b:Nat}{o:Obj}{h:H}(w:AN (pts b o) h):h[b]? = some o:=by
 have:=w b;simpa[pts] using this
def AN.ext {x:Res}{h a:H}(w:AN x h)(e:qk h a):AN x a:=fun b=>by
 have:=w b;revert this;cases x b with
 | no=>intro _;trivial
 | bad=>intro h;exact h
 | one o=>
  intro d;have c:b<h.size:=(S3.1 d).1;show a[b]? = some o;rw[e b c];exact d
def AN.new {x:Res}{h c:H}{b:Nat}{o:Obj}(w:AN x h)(e:qk h c)(j:h.size<=b)(g:c[b]? = some o):AN (pts b o+x) c:=fun i=>by
 have hi:=(w.ext e) i;have d:=w i;rw[Res.add_at];unfold pts;by_cases a:i=b
 ·subst a;simp only[if_true];revert d;cases x i with
  | no=>intro _;exact g
  | bad=>intro h;exact h
  | one o'=>intro f;have:=(S3.1 f).1;omega
 ·simp only[a,if_false];exact hi
def AN.set {x:Res}{h:H}{b:Nat}{o o':Obj}(w:AN (pts b o+x) h):AN (pts b o'+x) (h.setIfInBounds b o'):=fun i=>by
 have hi:=w i;have e:=w.left.one;have c:b<h.size:=(S3.1 e).1;rw[Res.add_at] at hi ⊢;unfold pts at hi ⊢;by_cases a:i=b
 ·subst a;simp only[if_true] at hi ⊢;revert hi;cases x i with
  | no=>intro _;show (h.setIfInBounds i o')[i]? = some o';simp[c]
  | bad=>intro h;exact h
  | one o'=>intro h;exact h
 ·simp only[a,if_false] at hi ⊢;revert hi;cases x i with
  | no=>intro h;exact h
  | bad=>intro h;exact h
  | one o'=>intro d;show (h.setIfInBounds b _)[i]? = some o';rw[Array.getElem?_setIfInBounds_ne (Ne.symm a)];exact d
def AN.ne {x:Res}{h:H}{a b:Nat}{p q:Obj}(w:AN (pts a p+(pts b q+x)) h):a≠b:=by
 rintro rfl;have:=w a;simp only[Res.add_at,pts,if_true] at this;cases c:x a<;>rw[c] at this<;>exact this
class Be (b:Nat) (x:Res) (o:outParam Obj):Prop where
 ex:∃ y,x=pts b o+y
class ZQ (b:Nat) (x:Res) (o:outParam Obj) (o':Obj) (x':outParam Res):Prop where
 ex:∃ y,x=pts b o+y/\x'=pts b o'+y
instance Be.here {b:Nat} {o:Obj}:Be b (pts b o) o:=⟨0,(Res.add_zero _).symm⟩
instance Be.inl {b:Nat} {o:Obj} {x y:Res} [f:Be b x o]:Be b (x+y) o:=by
 obtain⟨z,hz⟩:=f.ex;exact⟨z+y,by rw[hz,Res.assoc]⟩
instance Be.inr {b:Nat} {o:Obj} {x y:Res} [f:Be b y o]:Be b (x+y) o:=by
 obtain⟨z,hz⟩:=f.ex;exact⟨x+z,by rw[hz,Res.left_comm]⟩
instance ZQ.here {b:Nat} {o o':Obj}:ZQ b (pts b o) o o' (pts b o'):=⟨0,(Res.add_zero _).symm,(Res.add_zero _).symm⟩
instance ZQ.inl {b:Nat} {o o':Obj} {x x' y:Res} [f:ZQ b x o o' x']:ZQ b (x+y) o o' (x'+y):=by
 obtain⟨z,h1,h2⟩:=f.ex;exact⟨z+y,by rw[h1,Res.assoc],by rw[h2,Res.assoc]⟩
instance ZQ.inr {b:Nat} {o o':Obj} {x y y':Res} [f:ZQ b y o o' y']:ZQ b (x+y) o o' (x+y'):=by
 obtain⟨z,h1,h2⟩:=f.ex;exact⟨x+z,by rw[h1,Res.left_comm],by rw[h2,Res.left_comm]⟩
def AN.find {x:Res}{h:H}{b:Nat}{o:Obj}(w:AN x h)[f:Be b x o]:h[b]? = some o:=by
 obtain⟨y,a⟩:=f.ex;rw[a] at w;exact w.left.one
def AN.put {x x':Res}{h:H}{b:Nat}{o o':Obj}(w:AN x h)[f:ZQ b x o o' x']:AN x' (h.setIfInBounds b o'):=by
 obtain⟨y,a,c⟩:=f.ex;rw[a] at w;rw[c];exact w.set
variable {h:H} {k:Vz->Prop} {kt:Kt}
@[go_sem] def Gw {p:Addr}:BS (.pointer (some p)) k=k (.pointer (some p)):=by simp[BS,Qf]
@[go_sem] def APa {f:FuncId}{a c:Array Vz}:BS (.func (.func f) a c) k=k (.func (.func f) a c):=by simp[BS,Qf]
@[go_sem] theorem AH6 {b o:Nat}:(⟨b,o,none⟩:Addr).add 0=⟨b,o,none⟩:=rfl
def Cb {b o n:Nat}:(⟨b,o,none⟩:Addr).add n=⟨b,o+n,none⟩:=by
 unfold Addr.add;split
 ·rename_i h;subst h;rfl
 ·rfl
@[go_sem high] def IK {b n:Nat}:(⟨b,0,none⟩:Addr).add n=⟨b,n,none⟩:=by rw[Cb,U1]
@[go_sem] def Dx {off:Nat}{p:Addr}:Aw off (.pointer (some p)) k=k (.pointer (some (p.add off))):=by simp[Aw]
@[go_sem] theorem Ab {A B:Prop}:BJ (.bool true) A B=A:=rfl
@[go_sem] theorem AJ {A B:Prop}:BJ  AE  A B=B:=rfl
@[go_sem] theorem CV {A B:Prop}:CR  AI  true A B=A:=rfl
@[go_sem] theorem Hi {A B:Prop}:CR  AI  false A B=B:=rfl
@[go_sem] theorem GU {A B:Prop}:CR  AE true A B=B:=rfl
@[go_sem] theorem Bt {A B:Prop}:CR  AE false A B=A:=rfl
@[go_sem] theorem AR2 {a b:Vz}:KU (.bool true) a b k=k a:=rfl
@[go_sem] theorem AR1 {a b:Vz}:KU  AE  a b k=k b:=rfl
def AS {p:Prop}[Decidable p]{A B:Prop}(b:p->A)(c:¬p->B):BJ (.bool (decide p)) A B:=by
 by_cases a:p
 ·rw[H0 a];exact b a
 ·rw[J0 a];exact c a
def Ct {p:Prop}[Decidable p]{A B:Prop}(b:p->A)(c:¬p->B):CR (.bool (decide p)) true A B:=by
 by_cases a:p
 ·rw[H0 a];exact b a
 ·rw[J0 a];exact c a
def Cj {p:Prop}[Decidable p]{A B:Prop}(b:¬p->A)(c:p->B):CR (.bool (decide p)) false A B:=by
 by_cases a:p
 ·rw[H0 a];exact c a
 ·rw[J0 a];exact b a
@[go_sem] def BF {a:Vz}{l:List Vz}:Ck (.tuple ⟨a::l⟩) 0 k=k a:=by simp[Ck]
@[go_sem] def BO {a b:Vz}{l:List Vz}:Ck (.tuple ⟨a::b::l⟩) 1 k=k b:=by simp[Ck]
@[go_sem] def GE {a b c:Vz}{l:List Vz}:Ck (.tuple ⟨a::b::c::l⟩) 2 k=k c:=by simp[Ck]
@[go_sem] def oq {a b c d:Vz}{l:List Vz}:Ck (.tuple ⟨a::b::c::d::l⟩) 3 k=k d:=by simp[Ck]
@[go_sem] def Ah {kk:Iq}{a b:Int}:AQ .gtr (.int kk a) (.int kk b) k=k (.bool (decide (a>b))):=by simp[AQ,DO]
@[go_sem] def Bd {kk:Iq}{a b:Int}:AQ .geq (.int kk a) (.int kk b) k=k (.bool (decide (a>=b))):=by simp[AQ,DO]
@[go_sem] def AR {kk:Iq}{a b:Int}:AQ .lss (.int kk a) (.int kk b) k=k (.bool (decide (a<b))):=by simp[AQ,DO]
@[go_sem] def BY {kk:Iq}{a b:Int}:AQ .leq (.int kk a) (.int kk b) k=k (.bool (decide (a<=b))):=by simp[AQ,DO]
@[go_sem] def AT {kk:Iq}{a b:Int}:AQ .eql (.int kk a) (.int kk b) k=k (.bool (decide (a=b))):=by simp[AQ,DO];rfl
@[go_sem] def Ay {kk:Iq}{a b:Int}:AQ .neq (.int kk a) (.int kk b) k=k (.bool (decide (a≠b))):=by
 have:(a != b)=decide (a≠b):=by by_cases h:a=b<;>simp[h]
 simp[AQ,DO];simpa using J3 (fun x=>k (.bool x)) this
@[go_sem] def CI {b:Bool}:unN .not (.bool b) k=k (.bool (!b)):=by simp[unN,unV]
@[go_sem] def So {p:Prop}[Decidable p]:(!decide p)=decide (¬p):=by by_cases h:p<;>simp[h]
def ZK {kk:Iq}(d:kk.signed=false){a:Int}(b:0<=a)(c:a<2^kk.bits):kk.wrap a=a:=by
 unfold IntKind.wrap;cases kk<;>simp_all [IntKind.signed,IntKind.bits]<;>omega
def lr {a:Int}(b:0<=a)(c:a<256):IntKind.u8.wrap a=a:=by unfold IntKind.wrap;simp[IntKind.signed,IntKind.bits];omega
def AEx {a:Int}(b:0<=a)(c:a<65536):IntKind.u16.wrap a=a:=by unfold IntKind.wrap;simp[IntKind.signed,IntKind.bits];omega
def AEy {a:Int}(b:0<=a)(c:a<4294967296):IntKind.u32.wrap a=a:=by unfold IntKind.wrap;simp[IntKind.signed,IntKind.bits];omega
def AEz {a:Int}(b:0<=a)(c:a<18446744073709551616):IntKind.u64.wrap a=a:=by unfold IntKind.wrap;simp[IntKind.signed,IntKind.bits];omega
def ED {a:Int}(b : -9223372036854775808<=a)(c:a<9223372036854775808):IntKind.i64.wrap a=a:=by unfold IntKind.wrap;simp[IntKind.signed,IntKind.bits];omega
def BT {kk:Iq}{a b:Int}:AQ .add (.int kk a) (.int kk b) k=k (.int kk (kk.wrap (a+b))):=by simp[AQ,DO]
def Ci {kk:Iq}{a b:Int}:AQ .sub (.int kk a) (.int kk b) k=k (.int kk (kk.wrap (a-b))):=by simp[AQ,DO]
def CZ {kk:Iq}{a b:Int}:AQ .mul (.int kk a) (.int kk b) k=k (.int kk (kk.wrap (a*b))):=by simp[AQ,DO]
def NU {kk:Iq}{a b:Int}(c:b≠0):AQ .quo (.int kk a) (.int kk b) k=k (.int kk (kk.wrap (a.tdiv b))):=by simp[AQ,DO,c]
def AFG {kk:Iq}{a b:Int}(c:b≠0):AQ .rem (.int kk a) (.int kk b) k=k (.int kk (a.tmod b)):=by simp[AQ,DO,c]
@[go_sem] def Ea {s d:Iq}{n:Int}:GO d (.int s n) k=k (.int d (d.wrap n)):=propext ⟨fun⟨_,_,h,a⟩=>by cases h;exact a,fun a=>⟨_,_,rfl,a⟩⟩
@[go_sem] def APW {s:ByteArray}:PB (.string s) k=k (AB s.size):=by simp[PB]
@[go_sem] def As {a:Option Addr}{n c:Nat}:DM (.slice a n c) k=k (AB n):=propext ⟨fun⟨_,_,_,h,b⟩=>by cases h;exact b,fun b=>⟨_,_,_,rfl,b⟩⟩
@[go_sem] def Ij:HF .iface true true h .nilIface .nilIface k=k AE :=by simp[HF,HS]
@[go_sem] def ARk:HF .iface true false h .nilIface .nilIface k=k AI:=by simp[HF,HS]
@[go_sem] def ATR {c:Bool}{t:Tj}{v:Vz}:HF .iface c true h (.iface t v) .nilIface k=k  AI :=by simp[HF,HS]
@[go_sem] def ARj {c:Bool}{t:Tj}{v:Vz}:HF .iface c false h (.iface t v) .nilIface k=k AE:=by simp[HF,HS]
@[go_sem] def ATS {c:Bool}{p:Addr}:HF .ptr c true h (.pointer (some p)) Au k=k  AI :=by simp[HF,HS]
@[go_sem] def ARl {c:Bool}{p:Addr}:HF .ptr c false h (.pointer (some p)) Au  k=k AE:=by simp[HF,HS]
@[go_sem] def ATP {c:Bool}:HF .ptr c true h  Au   Au k=k AE:=by simp[HF,HS]
@[go_sem] def ARi {c:Bool}:HF .ptr c false h Au Au  k=k (.bool true):=by simp[HF,HS]
def qm (c:Option Vz)(k:Vz->Prop):Prop:=match c with|some v=>k v|none=>False
@[go_sem] theorem Hn {v:Vz}:qm (some v) k=k v:=rfl
@[go_sem] theorem Oz {a:Vz}{l:List Vz}:qm (⟨a::l⟩:Array Vz)[0]? k=k a:=rfl
@[go_sem] def APV {a:Vz}{l:List Vz}{n:Nat}:qm (⟨a::l⟩:Array Vz)[n+1]? k=qm (⟨l⟩:Array Vz)[n]? k:=by simp
def AC {x:Res}(w:AN x h){b o:Nat}{c:Array Vz}{T:Tj}{fz:Nat×Nat}[Be b x (.cells c T fz)]:Ae false 1 (.pointer (some ⟨b,o,none⟩)) h k=qm c[o]? k:=by
 have e:Ra h ⟨b,o,none⟩=c[o]?:=by
  unfold Ra;rw[w.find (b:=b)];rfl
 unfold Ae Qw qm;refine propext ⟨fun⟨p,v,h1,h2,h3⟩=>?_,fun a=>?_⟩
 ·cases h1;simp only[cond,e] at h2;rw[h2];exact h3
 ·cases d:c[o]? with
  | none=>rw[d] at a;exact a.elim
  | some v=>rw[d] at a;exact⟨_,v,rfl,by simp only[cond,e,d],a⟩
def KB {x x':Res}(w:AN x h){b o n:Nat}{v:Vz}{c:Array Vz}{T:Tj}{d:H->Prop}[Be b x (.cells c T (0,0))][p:ZQ b x (.cells c T (0,0)) (.cells (Av c o v.cells.toList) T (0,0)) x']
  (f:v.cells.size=n) (a:o+n<=c.size) (e:v.cells.toList.all Value.oneCell'=true) (K:∀ h,AN x' h->d h):BV n (.pointer (some ⟨b,o,none⟩)) v h d:=
 ⟨_,c,T,rfl,rfl,w.find,f,a,e,K _ w.put⟩
def AD {x x':Res}(w:AN x h){b o n:Nat}{v:Vz}{c:Array Vz}(d:Array Vz){T:Tj}{e:H->Prop}[Be b x (.cells c T (0,0))][p:ZQ b x (.cells c T (0,0)) (.cells d T (0,0)) x']
  (f:Av c o v.cells.toList=d) (i:v.cells.size=n) (a:o+n<=c.size) (g:v.cells.toList.all Value.oneCell'=true) (K:∀ h,AN x' h->e h):BV n (.pointer (some ⟨b,o,none⟩)) v h e:=by
 subst f;exact KB w i a g K
def AN.cast {x y:Res}(w:AN x h)(e:x=y):AN y h:=e▸w
def BG {x:Res}(w:AN x h){T:Tj}{cs:Array Vz}(K:∀ b h,AN (pts b (.cells cs T (0,0))+x) h->kt (Pt b) h):Bc T cs h kt:=
 fun b _ e a c=>K b _ (w.new e a c)
def IW:List Vz->Nat->List Vz->List Vz
 | l,_,[]=>l
 | l,o,v::vs=>IW (l.set o v) (o+1) vs
def Du (pl:Nat->Option (Nat×Nat))(l:List Vz):List (Nat×Vz)->Option (List Vz)
 | []=>some l
 | (i,v)::r=>match pl i with
  | none=>none
  | some (off,size)=>if v.cells.toList.length≠size\/l.length<off+size then none else Du pl (IW l off v.cells.toList) r
theorem Mt:∀ (vs l:List Vz) (o:Nat),(IW l o vs).length=l.length
 | [],_,_=>rfl
 | v::vs,l,o=>by rw[IW,Mt vs];simp
theorem AY:∀ (vs l:List Vz) (o:Nat),Av ⟨l⟩ o vs=⟨IW l o vs⟩
 | [],_,_=>rfl
 | v::vs,l,o=>by
  rw[Av,IW,<-AY vs];congr 1;apply P4;simp
theorem Qa (off:Nat):∀ (vs l:List Vz) (j:Nat),(vs.zipIdx j).foldl (fun (cs:Array Vz) (p:Vz×Nat)=>cs.setIfInBounds (off+p.2) p.1) ⟨l⟩=⟨IW l (off+j) vs⟩
 | [],l,j=>rfl
 | v::vs,l,j=>by
  rw[List.zipIdx_cons,J4,IW];have:((⟨l⟩:Array Vz).setIfInBounds (off+j) v)=⟨l.set (off+j) v⟩:=by apply P4;simp
  rw[this,Qa off vs _ (j+1)];rfl
theorem EE {pl:Nat->Option (Nat×Nat)}:∀ (parts:List (Nat×Vz)) (l r:List Vz),Du pl l parts=some r->Instr.fill pl ⟨l⟩ parts=some ⟨r⟩
 | [],l,r,h=>by cases h;rfl
 | (i,v)::ps,l,r,h=>by
  unfold Du at h;unfold Instr.fill;cases b:pl i with
  | none=>rw[b] at h;cases h
  | some os=>
   obtain⟨off,size⟩:=os;rw[b] at h;dsimp only at h ⊢;split at h
   ·cases h
   ·rename_i a;simp only[not_or,Decidable.not_not,Nat.not_lt] at a;have d:v.cells.size=size:=by simpa using a.1
    rw[F0 (by simp only[d,ne_eq,not_true_eq_false,K3,decide_false,Bool.false_or,W4,Nat.not_lt,gt_iff_lt];simpa using a.2)];have:=Qa off v.cells.toList l 0;rw[Z4] at this;have e:v.cells.zipIdx.foldl (fun (cs:Array Vz) (p:Vz×Nat)=>cs.setIfInBounds (off+p.2) p.1) ⟨l⟩=⟨IW l off v.cells.toList⟩:=by
     rw[<-this,<-Array.foldl_toList,Array.toList_zipIdx]
    rw[show (v.cells.zipIdx.foldl (fun cs (c,j)=>cs.setIfInBounds (off+j) c) (⟨l⟩:Array Vz))=⟨IW l off v.cells.toList⟩ from e];exact EE ps _ r h
def Cv {z:Vz}{n:Nat}(a:z.cells=#[z]):BN z.cells n=⟨List.replicate n z⟩:=by
 unfold BN;rw[a];apply P4;apply O4;intro i;simp;by_cases h:i<n<;>simp[h,Nat.mod_one]
def Ai {b o:Nat}{k:Vz->Prop}:Aw o (Pt b) k=k (.pointer (some ⟨b,o,none⟩)):=by simp only[go_sem]
def Br {b o:Nat}{k:Vz->Prop}:(BS (Pt b) fun a=>Aw o a k)=k (.pointer (some ⟨b,o,none⟩)):=by simp only[go_sem]
def Kq0 (a b c d:Res):a+(b+(c+d))=c+(a+(b+d)):=by ac_rfl
def Kq1 (a b c d:Res):a+(b+(c+d))=b+((a+c)+d):=by ac_rfl
def Kq2 (a b c:Res):a+(b+c)=b+(a+c):=by ac_rfl
def Kq3 (a b c d:Res):a+(b+(c+d))=a+((b+c)+d):=by ac_rfl
def qs (a b c d e:Res):a+(b+(c+(d+e)))=b+(a+(c+(d+e))):=by ac_rfl
def Kq5 (a b c d:Res):a+(b+(c+d))=(a+(b+c))+d:=by ac_rfl
def Kq6 (a b c d:Res):a+(b+(c+d))=b+(c+(a+d)):=by ac_rfl
def Kq7 (a b c d e f:Res):a+(b+(c+(d+(e+f))))=b+(c+(d+((a+e)+f))):=by ac_rfl
def Kq8 (a b c d e:Res):a+(b+(c+(d+e)))=a+((b+(c+d))+e):=by ac_rfl
def Kq9 (a b c d:Res):a+(b+(c+d))=c+(b+(a+d)):=by ac_rfl
def AFC (a b c d e:Res):a+(b+(c+(d+e)))=a+(b+(d+(c+e))):=by ac_rfl
def AOg (a b c d e:Res):a+(b+(c+(d+e)))=b+(c+((a+d)+e)):=by ac_rfl
def ALC (a b c d:Res):a+((b+c)+d)=b+(a+(c+d)):=by ac_rfl
def AOh (a b c d e f g i j:Res):a+(b+((c+(d+(e+(f+g))))+(i+j)))=g+(a+((b+((c+(d+(e+f)))+i))+j)):=by ac_rfl
def AOi (a b c d e f:Res):a+(b+(c+(d+(e+f))))=a+(b+(d+((c+e)+f))):=by ac_rfl
end
variable {h:H}{k:Vz->Prop}{kt Q:Kt}{x y z r:Res}
end
end Go.Proofs.YtollddkkdgoonaaGreatDoor
