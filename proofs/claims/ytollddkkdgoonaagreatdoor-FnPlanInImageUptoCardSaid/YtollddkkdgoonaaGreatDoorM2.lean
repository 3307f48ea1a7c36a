/- A part of a proof over images that are written and read. No condition; a step. -/
import Derived.Test.YtollddkkdgoonaaGreatDoorM1
namespace Go.Proofs.YtollddkkdgoonaaGreatDoor
open Go
set_option linter.unusedVariables false
set_option linter.unusedSimpArgs false
set_option maxRecDepth 100000
section
def Lc (P:Program):Prop:=∀ (f:FuncId) (fn:Func),P.funcs[f]? = some fn→fn.body.isSome=true→(fn.name == "runtime.NumGoroutine")=false
section
variable {P:Program} {w:World}
theorem Ng (hng:Lc P){f:FuncId}{args:Array Value}(h:F9 P f=true):(callFunc f args).run P w=.ok (.enter f args) w:=by
 unfold F9 at h
 split at h
 ·rename_i fn hf
  have hn:=hng f fn hf h
  have hb:fn.body.isNone=false:=by cases hb:fn.body<;>rw[hb] at h<;>first|rfl|cases h
  simp only[callFunc,A11,run_program,A06,hf]
  simp only[hn,A45,if_false,hb,A15]
 ·cases h
theorem N3 (hng:Lc P){f:FuncId}{args:Array Value}{l:List Value}{k:Kt}(hb:F9 P f=true)(hl:args=l.toArray)(h:Proofs.YtollddkkdgoonaaGreatDoor.Call P f l w.heap k):GA P w k ((callFunc f args).run P w):=by
 rw[Ng hng hb,hl]
 exact⟨rfl,h w rfl⟩
theorem U6 (c:Go.Call)(e:Env):c.args.map (ev e)=(c.args.toList.map (ev e)).toArray:=by
 apply A56
 simp
theorem Gk {α:Type}{a:Array α}{l:List α}(h:a.toList=l):a=l.toArray:=by
 subst h;rfl
theorem V4 {c:Go.Call}{e:Env}{b:Builtin}{ty:TypeId}{F:Array Bool}(hb:c.callee=.builtin b)(hF:F=c.args.map fun|.const _=>true|_=>false) :
  (do let d ←resolve (ev e) c ty;invoke d.target d.args).run P w=(builtin b c.argTypes ty F (c.args.toList.map (ev e)).toArray).run P w:=by
 unfold resolve
 rw[hb,←U6,hF]
 rfl
theorem Be {k:Kt}{s:Sem Value}(h:∃ v,s.run P w=.ok v w∧k v w.heap):GA P w k ((do pure (.value (←s)):Sem Next).run P w):=by
 obtain⟨v,hr,hk⟩:=h
 exact ZF hr hk
theorem Cx {k:Kt}{s:Sem Value}(h:∃ v w',s.run P w=.ok v w'∧Ce w w'∧k v w'.heap):GA P w k ((do pure (.value (←s)):Sem Next).run P w):=by
 obtain⟨v,w',hr,hs,hk⟩:=h
 exact Wk hr hs hk
theorem TF {k:Kt}{s:Sem Unit}(h:∃ w',s.run P w=.ok () w'∧Ce w w'∧k undef w'.heap):GA P w k ((do s;pure .skip:Sem Next).run P w):=by
 obtain⟨w',hr,hs,hk⟩:=h
 exact WM hr hs hk
theorem Y9 (hng:Lc P){c:Go.Call}{e:Env}{k:Kt}{dst:Option Tmp}{type:TypeId}{pos:String}{after:Array Edge}{guard:Option (Nat×Bool)}
  (h:Hh P ⟨dst,.call c,type,pos,after,guard⟩ (ev e) w.heap k):GA P w k ((execOp (ev e) ⟨dst,.call c,type,pos,after,guard⟩).run P w):=by
 obtain⟨callee,args,argTypes⟩:=c
 unfold Hh at h
 unfold execOp
 dsimp only at h ⊢
 have val:∀ f:Operand,((∃ n fst cap,ev e f=.func (.func n) fst cap∧F9 P n=true)∧V1 P (ev e f) (args.toList.map (ev e)) w.heap k)→
   GA P w k ((do let d ←resolve (ev e) ⟨.value f,args,argTypes⟩ type;invoke d.target d.args).run P w):=by
  rintro f ⟨⟨n,fst,cap,hv,hb⟩,n',fst',cap',hv',hk⟩
  rw[hv] at hv'
  cases hv'
  have hr:(resolve (ev e) ⟨.value f,args,argTypes⟩ type).run P w=.ok {target:=.fn (.func n) cap,args:=fst++args.map (ev e)} w:=by
   unfold resolve
   simp[Deferred.ofValue,hv]
  simp only[A11,hr,A06,invoke]
  refine N3 hng hb ?_ hk
  apply A56
  simp
 cases callee with
 | invoke r m=>exact h.elim
 | value f=>
  cases f with
  | func f=>
   dsimp only at h
   cases hb:F9 P f with
   | false=>rw[hb] at h;exact h.elim
   | true=>
    rw[hb] at h
    have hr:(resolve (ev e) ⟨.value (.func f),args,argTypes⟩ type).run P w=.ok {target:=.fn (.func f) #[],args:=args.map (ev e)} w:=by
     unfold resolve
     simp[Deferred.ofValue,ev]
    simp only[A11,hr,A06,invoke]
    exact N3 hng hb (by apply A56;simp) h
  | tmp t=>exact val _ h
  | const v=>exact val _ h
  | global g=>exact val _ h
 | builtin b=>
  rw[V4 rfl rfl]
  dsimp only
  cases b<;>dsimp only at h<;>(try (exact h.elim))
  case len=>
   split at h
   ·rename_i x t ha ht
    rw[ha,Gk ht]
    simp only[List.map,builtin]
    split at h
    ·rename_i hu;exact Be (PB hu h)
    ·rename_i hu;exact Be (PT hu h)
    ·rename_i hu;exact Be (OE hu h)
    ·exact h.elim
   ·exact h.elim
  case append=>
   split at h
   ·rename_i s x t u ha ht
    rw[ha,Gk ht]
    simp only[List.map,builtin]
    split at h
    ·rename_i he hu;exact Cx (Og he hu h)
    ·rename_i d hni he hu;exact Cx (Qp he hu hni h)
    ·exact h.elim
   ·exact h.elim
  case copy=>
   split at h
   ·rename_i s x t u ha ht
    rw[ha,Gk ht]
    simp only[List.map,builtin]
    split at h
    ·rename_i he;exact Cx (Wd he h)
    ·exact h.elim
   ·exact h.elim
  case cap=>
   split at h
   ·rename_i x t ha ht
    rw[ha,Gk ht]
    simp only[List.map,builtin]
    split at h
    ·rename_i hu;exact Be (PE hu h)
    ·exact h.elim
   ·exact h.elim
  case min=>
   split at h
   ·rename_i s x ha
    rw[ha]
    simp only[List.map,builtin]
    exact Be (SG h)
   ·exact h.elim
  case max=>
   split at h
   ·rename_i s x ha
    rw[ha]
    simp only[List.map,builtin]
    exact Be (Sq h)
   ·exact h.elim
  case delete=>
   split at h
   ·rename_i s x t u ha ht
    rw[ha,Gk ht]
    simp only[List.map,builtin]
    obtain⟨w',hr,hs,hk⟩:=RV (us:=u) h
    exact Cx ⟨_,w',hr,hs,hk⟩
   ·exact h.elim
set_option maxHeartbeats 2000000 in
theorem AF1 (hng:Lc P){o:Oper}{e:Env}{k:Kt}(h:Hh P o (ev e) w.heap k):GA P w k ((execOp (ev e) o).run P w):=by
 obtain⟨dst,op,type,pos,after,guard⟩:=o
 unfold Hh at h
 cases op<;>dsimp only at h
 case move x=>exact⟨As,h⟩
 case assign x=>exact⟨As,h⟩
 case pick c a b=>
  unfold Hk at h
  unfold execOp
  dsimp only
  cases hc:ev e c<;>rw[hc] at h<;>(try (exact h.elim))
  rename_i t
  simp only[asBool,A11,A15,A06]
  refine⟨As,?_⟩
  cases t<;>exact h
 case alloc t=>
  unfold AQ at h
  cases hz:AG P t with
  | none=>rw[hz] at h;exact h.elim
  | some z=>
   rw[hz] at h
   refine Cx ⟨_,{w with heap:=w.heap.push (.cells z.cells t)},?_,As,S8 h⟩
   unfold Instr.alloc
   simp only[A11,BL hz,A06,LF,A15]
 case box t x=>
  refine Cx ⟨_,{w with heap:=w.heap.push (.cells (ev e x).cells t)},?_,As,S8 h⟩
  unfold Instr.box
  simp only[A11,A06,LF,A15]
 case build t parts=>
  split at h
  ·exact h.elim
  ·rename_i hne
   obtain⟨v,hr,hk⟩:=L6 (w:=w) (fun hc=>hne hc) h
   refine Be ⟨v,?_,hk⟩
   rw[←hr]
   congr 2
   apply A56
   simp
 case buildSlice t n parts=>
  split at h
  ·rename_i el he
   obtain⟨v,w',hr,hs,hk⟩:=KF he h
   refine Cx ⟨v,w',?_,hs,hk⟩
   rw[←hr]
   congr 2
   apply A56
   simp
  ·exact h.elim
 case load t a=>
  cases ho:ED P t with
  | false=>rw[ho] at h;exact h.elim
  | true=>
   rw[ho] at h
   obtain⟨p,v,hp,hv,hk⟩:=h
   refine Be ⟨v,?_,hk⟩
   unfold Instr.loadAt
   rw[hp]
   simp only[Instr.sureAddr,pure_bind,A11,A15,A06]
   exact GL ho hv
 case store t a x=>
  cases ho:ED P t with
  | false=>rw[ho] at h;exact h.elim
  | true=>
   rw[ho] at h
   obtain⟨p,c,T,hp,hsp,hb,hv,hle,hone,hk⟩:=h
   obtain⟨w',hr,hs,hh⟩:=NR (P:=P) ho hsp hb hv hle hone
   refine TF ⟨w',?_,hs,by rw[hh];exact hk⟩
   unfold Instr.storeAt
   rw[hp]
   simp only[Instr.sureAddr,pure_bind,A11,A15,A06]
   exact hr
 case nilCheck x=>exact Kq rfl h.1 h.2
 case binOp op t x y u=>
  cases hst:Ij P t with
  | true=>
   rw[hst] at h
   obtain⟨v,hv,hk⟩:=h
   have hg:(eqGuard op t x y (ev e x) (ev e y)).run P w=.ok () w:=CQ fun _=>by
    unfold CT at hv
    split at hv
    ·rename_i h1 h2
     refine⟨fun c hc=>?_,fun hc _=>?_⟩<;>(rw[h1] at hc;cases hc)
    ·rename_i h1 h2
     refine⟨fun c hc=>?_,fun hc _=>?_⟩<;>(rw[h1] at hc;cases hc)
    ·cases hv
   refine Be ⟨v,?_,hk⟩
   simp only[A11,hg,A06]
   exact HP hv
  | false=>
   rw[hst] at h
   simp only[cond] at h
   split at h
   ·rename_i neg hneg
    obtain⟨r,hr,hk⟩:=h
    have hg:(eqGuard op t x y (ev e x) (ev e y)).run P w=.ok () w:=CQ fun _=>by
     refine⟨fun c hc=>?_,fun h1 h2=>?_⟩
     ·rw[hc] at hr;generalize Bd P t=d at hr;cases d<;>cases hr
     ·rw[h1,h2] at hr
      generalize Bd P t=d at hr
      cases d<;>(try (cases hr;done))
      simp only[GG] at hr
      split at hr
      ·rename_i hc;simpa using hc
      ·cases hr
    refine Be ⟨_,?_,hk⟩
    simp only[A11,hg,A06]
    exact Hy hneg hr
   ·exact h.elim
 case unOp op t x=>
  obtain⟨v,hv,hk⟩:=h
  exact Be ⟨v,L1 hv,hk⟩
 case convert s d x=>
  split at h
  ·rename_i ks kd hs hd
   obtain⟨k',n,hx,hk⟩:=h
   refine Be ⟨_,?_,hk⟩
   unfold convert
   rw[hx]
   simp only[A11,AR hs,AR hd,A06]
   rfl
  ·rename_i hs hd
   obtain⟨⟨s',hx⟩,hk⟩:=h
   refine Be ⟨_,?_,hk⟩
   unfold convert
   rw[hx]
   simp only[A11,AR hs,AR hd,A06]
   rfl
  ·rename_i el hs hd
   split at h
   ·rename_i he
    obtain⟨s',hx,v,w',hr,hsd,hk⟩:=AAh (P:=P) h
    refine Cx ⟨v,w',?_,hsd,hk⟩
    unfold convert
    rw[hx]
    simp only[A11,AR hs,AR hd,AR he,A06]
    exact hr
   ·exact h.elim
  ·rename_i el hs hd
   split at h
   ·rename_i he
    obtain⟨v,hv,hk⟩:=h
    refine Be ⟨v,?_,hk⟩
    have hx:∃ a l c,ev e x=.slice a l c:=by
     unfold J5 at hv
     split at hv<;>first|exact⟨_,_,_,by assumption⟩|cases hv
    obtain⟨a,l,c,hx⟩:=hx
    have hr:=TB (P:=P) hv
    unfold convert
    rw[hx] at hr ⊢
    simp only[A11,AR hs,AR hd,AR he,A06]
    exact hr
   ·exact h.elim
  ·exact h.elim
 case makeInterface t x=>
  split at h
  ·exact h.elim
  ·rename_i d hni hd
   refine Be ⟨_,?_,h⟩
   unfold Instr.makeInterface
   simp only[A11,AR hd,A06]
   cases d<;>first|rfl|exact absurd hd (hni _)
  ·exact h.elim
 case makeFunc fn first captured=>exact Be ⟨_,rfl,h⟩
 case makeMap t r=>
  cases r with
  | some _=>exact h.elim
  | none=>exact Cx ⟨_,{w with heap:=w.heap.push (.map #[] 0)},rfl,As,h _ _ Dq (A07 _) EV⟩
 case makeSlice t l c=>
  split at h
  ·rename_i el he
   exact Cx (Or (Hu he).1 h)
  ·exact h.elim
 case slice t x lo hi mx=>
  cases mx with
  | some _=>exact h.elim
  | none=>
   obtain⟨v,hv,hk⟩:=h
   exact Be ⟨v,Lp hv,hk⟩
 case fieldAddr t x f=>
  split at h
  ·rename_i off ho
   obtain⟨p,hp,hk⟩:=h
   refine Be ⟨_,?_,hk⟩
   rw[hp]
   exact JC ho
  ·exact h.elim
 case field t x f=>
  split at h
  ·rename_i fs hu
   split at h
   ·rename_i fd hf
    cases ho:ED P fd.type with
    | false=>rw[ho] at h;exact h.elim
    | true=>rw[ho] at h;exact Be (KD hu hf ho h)
   ·exact h.elim
  ·exact h.elim
 case indexAddr t x i=>exact Be (JO h)
 case index t x i=>
  split at h
  ·rename_i hu;exact Be (J6 hu h)
  ·rename_i n el hu
   cases ho:ED P el with
   | false=>rw[ho] at h;exact h.elim
   | true=>rw[ho] at h;exact Be (Kk hu ho h)
  ·exact h.elim
 case lookup t x i ok=>
  split at h
  ·rename_i el he;exact Be (LN he h)
  ·exact h.elim
 case mapUpdate t m i v=>exact TF (Li h)
 case range t x=>
  split at h
  ·rename_i kt el hu;exact Cx (Uf hu h)
  ·exact h.elim
 case next x s=>
  cases s with
  | true=>exact h.elim
  | false=>exact Cx (Vb h)
 case entry x=>exact Be (MK h)
 case typeAssert x xt t ok=>
  split at h
  ·exact h.elim
  ·rename_i d hni hd
   exact Be (Hl hd hni h)
  ·exact h.elim
 case extract x i=>exact Be (JJ h)
 case call c=>exact Y9 hng h
 all_goals exact h.elim
end
end
section
def Yr (P:Program)(w:World)(k:Kt)(s:Sem Next):Prop:=∃ v,s.run P w=.ok (.value v) w∧k v w.heap
section
variable {P:Program} {w:World}
theorem BK {k:Kt}{s:Sem Value}(h:∃ v,s.run P w=.ok v w∧k v w.heap):Yr P w k (do pure (.value (←s))):=by
 obtain⟨v,hr,hk⟩:=h
 refine⟨v,?_,hk⟩
 simp only[A11,hr,A06,A15]
theorem UL {c:Go.Call}{e:Env}{k:Kt}{dst:Option Tmp}{type:TypeId}{pos:String}{after:Array Edge}{guard:Option (Nat×Bool)}
  (hc:calmB P ⟨dst,.call c,type,pos,after,guard⟩=true) (h:Hh P ⟨dst,.call c,type,pos,after,guard⟩ (ev e) w.heap k):Yr P w k (execOp (ev e) ⟨dst,.call c,type,pos,after,guard⟩):=by
 obtain⟨callee,args,argTypes⟩:=c
 unfold Hh at h
 unfold execOp
 dsimp only at h ⊢
 cases callee with
 | invoke r m=>exact h.elim
 | value f=>cases hc
 | builtin b=>
  unfold Yr
  rw[V4 rfl rfl]
  dsimp only
  cases b<;>(try (cases hc;done))<;>dsimp only at h
  case len=>
   split at h
   ·rename_i x t ha ht
    rw[ha,Gk ht]
    simp only[List.map,builtin]
    split at h
    ·rename_i hu;exact BK (PB hu h)
    ·rename_i hu;exact BK (PT hu h)
    ·rename_i hu;exact BK (OE hu h)
    ·exact h.elim
   ·exact h.elim
  case cap=>
   split at h
   ·rename_i x t ha ht
    rw[ha,Gk ht]
    simp only[List.map,builtin]
    split at h
    ·rename_i hu;exact BK (PE hu h)
    ·exact h.elim
   ·exact h.elim
  case min=>
   split at h
   ·rename_i s x ha
    rw[ha]
    simp only[List.map,builtin]
    exact BK (SG h)
   ·exact h.elim
  case max=>
   split at h
   ·rename_i s x ha
    rw[ha]
    simp only[List.map,builtin]
    exact BK (Sq h)
   ·exact h.elim
set_option maxHeartbeats 2000000 in
theorem Z5 {o:Oper}{e:Env}{k:Kt}(hc:calmB P o=true)(h:Hh P o (ev e) w.heap k):Yr P w k (execOp (ev e) o):=by
 obtain⟨dst,op,type,pos,after,guard⟩:=o
 unfold Hh at h
 cases op<;>dsimp only at h
 case move x=>exact⟨_,rfl,h⟩
 case pick c a b=>
  unfold Hk at h
  unfold execOp
  dsimp only
  cases hc:ev e c<;>rw[hc] at h<;>(try (exact h.elim))
  rename_i t
  simp only[asBool,pure_bind]
  refine⟨_,rfl,?_⟩
  cases t<;>exact h
 case build t parts=>
  split at h
  ·exact h.elim
  ·rename_i hne
   obtain⟨v,hr,hk⟩:=L6 (w:=w) (fun hc=>hne hc) h
   refine BK ⟨v,?_,hk⟩
   rw[←hr]
   congr 2
   apply A56
   simp
 case load t a=>
  cases ho:ED P t with
  | false=>rw[ho] at h;exact h.elim
  | true=>
   rw[ho] at h
   obtain⟨p,v,hp,hv,hk⟩:=h
   refine BK ⟨v,?_,hk⟩
   unfold Instr.loadAt
   rw[hp]
   simp only[Instr.sureAddr,pure_bind,A11,A15,A06]
   exact GL ho hv
 case nilCheck x=>
  obtain⟨h1,h2⟩:=h
  unfold execOp
  dsimp only
  generalize ev e x=y at *
  unfold Lk at h1
  split at h1
  ·exact⟨_,rfl,h2⟩
  ·exact⟨_,rfl,h2⟩
  ·cases h1
 case binOp op t x y u=>
  cases hst:Ij P t with
  | true=>
   rw[hst] at h
   obtain⟨v,hv,hk⟩:=h
   have hg:(eqGuard op t x y (ev e x) (ev e y)).run P w=.ok () w:=CQ fun _=>by
    unfold CT at hv
    split at hv
    ·rename_i h1 h2
     refine⟨fun c hc=>?_,fun hc _=>?_⟩<;>(rw[h1] at hc;cases hc)
    ·rename_i h1 h2
     refine⟨fun c hc=>?_,fun hc _=>?_⟩<;>(rw[h1] at hc;cases hc)
    ·cases hv
   refine BK ⟨v,?_,hk⟩
   simp only[A11,hg,A06]
   exact HP hv
  | false=>
   rw[hst] at h
   simp only[cond] at h
   split at h
   ·rename_i neg hneg
    obtain⟨r,hr,hk⟩:=h
    have hg:(eqGuard op t x y (ev e x) (ev e y)).run P w=.ok () w:=CQ fun _=>by
     refine⟨fun c hc=>?_,fun h1 h2=>?_⟩
     ·rw[hc] at hr;generalize Bd P t=d at hr;cases d<;>cases hr
     ·rw[h1,h2] at hr
      generalize Bd P t=d at hr
      cases d<;>(try (cases hr;done))
      simp only[GG] at hr
      split at hr
      ·rename_i hc;simpa using hc
      ·cases hr
    refine BK ⟨_,?_,hk⟩
    simp only[A11,hg,A06]
    exact Hy hneg hr
   ·exact h.elim
 case unOp op t x=>
  obtain⟨v,hv,hk⟩:=h
  exact BK ⟨v,L1 hv,hk⟩
 case convert s d x=>
  split at h
  ·rename_i ks kd hs hd
   obtain⟨k',n,hx,hk⟩:=h
   refine BK ⟨_,?_,hk⟩
   unfold convert
   rw[hx]
   simp only[A11,AR hs,AR hd,A06]
   rfl
  ·rename_i hs hd
   obtain⟨⟨s',hx⟩,hk⟩:=h
   refine BK ⟨_,?_,hk⟩
   unfold convert
   rw[hx]
   simp only[A11,AR hs,AR hd,A06]
   rfl
  ·rename_i el hs hd
   simp only[calmB,hs,hd] at hc
   cases hc
  ·rename_i el hs hd
   split at h
   ·rename_i he
    obtain⟨v,hv,hk⟩:=h
    refine BK ⟨v,?_,hk⟩
    have hx:∃ a l c,ev e x=.slice a l c:=by
     unfold J5 at hv
     split at hv<;>first|exact⟨_,_,_,by assumption⟩|cases hv
    obtain⟨a,l,c,hx⟩:=hx
    have hr:=TB (P:=P) hv
    unfold convert
    rw[hx] at hr ⊢
    simp only[A11,AR hs,AR hd,AR he,A06]
    exact hr
   ·exact h.elim
  ·exact h.elim
 case makeInterface t x=>
  split at h
  ·exact h.elim
  ·rename_i d hni hd
   refine BK ⟨_,?_,h⟩
   unfold Instr.makeInterface
   simp only[A11,AR hd,A06]
   cases d<;>first|rfl|exact absurd hd (hni _)
  ·exact h.elim
 case makeFunc fn first captured=>exact BK ⟨_,rfl,h⟩
 case slice t x lo hi mx=>
  cases mx with
  | some _=>exact h.elim
  | none=>
   obtain⟨v,hv,hk⟩:=h
   exact BK ⟨v,Lp hv,hk⟩
 case fieldAddr t x f=>
  split at h
  ·rename_i off ho
   obtain⟨p,hp,hk⟩:=h
   refine BK ⟨_,?_,hk⟩
   rw[hp]
   exact JC ho
  ·exact h.elim
 case field t x f=>
  split at h
  ·rename_i fs hu
   split at h
   ·rename_i fd hf
    cases ho:ED P fd.type with
    | false=>rw[ho] at h;exact h.elim
    | true=>rw[ho] at h;exact BK (KD hu hf ho h)
   ·exact h.elim
  ·exact h.elim
 case indexAddr t x i=>exact BK (JO h)
 case index t x i=>
  split at h
  ·rename_i hu;exact BK (J6 hu h)
  ·rename_i n el hu
   cases ho:ED P el with
   | false=>rw[ho] at h;exact h.elim
   | true=>rw[ho] at h;exact BK (Kk hu ho h)
  ·exact h.elim
 case lookup t x i ok=>
  split at h
  ·rename_i el he;exact BK (LN he h)
  ·exact h.elim
 case entry x=>exact BK (MK h)
 case typeAssert x xt t ok=>
  split at h
  ·exact h.elim
  ·rename_i d hni hd
   exact BK (Hl hd hni h)
  ·exact h.elim
 case extract x i=>exact BK (JJ h)
 case call c=>exact UL hc h
 all_goals first|exact h.elim|(cases hc;done)
end
end
section
section
variable {P:Program}
theorem Lv {ρ ρ':Operand→Value}{l:List (Nat×Operand)}(h:∀ x∈l.map (·.2),ρ x=ρ' x):l.map (fun p=>(p.1,ρ p.2))=l.map (fun p=>(p.1,ρ' p.2)):=
 A72 fun p hp=>by rw[h p.2 (A35.2 ⟨p,hp,rfl⟩)]
theorem UV {o:Oper}{ρ ρ':Operand→Value}{h:H}{k:Kt}(hx:∀ x∈o.op.operands,ρ x=ρ' x):Hh P o ρ h k=Hh P o ρ' h k:=by
 obtain⟨dst,op,type,pos,after,guard⟩:=o
 unfold Hh
 cases op<;>simp only[Op.operands] at hx<;>dsimp only
 case build t ps=>rw[Lv (ρ:=ρ) (ρ':=ρ') (fun x hx'=>hx x (by simpa using hx'))]
 case buildSlice t n ps=>rw[Lv (ρ:=ρ) (ρ':=ρ') (fun x hx'=>hx x (by simpa using hx'))]
 case makeFunc fn first captured=>
  rw[Array.map_congr_left (xs:=first) fun x h=>hx x (by simp[h]),Array.map_congr_left (xs:=captured) fun x h=>hx x (by simp[h])]
 case call c=>
  obtain⟨callee,args,argTypes⟩:=c
  have ha:∀ x∈args.toList,ρ x=ρ' x:=fun x h=>hx x (by simp[Call.operands];right;simpa using h)
  have hm:args.toList.map ρ=args.toList.map ρ':=A72 ha
  cases callee with
  | invoke r m=>rfl
  | value f=>
   have hf:ρ f=ρ' f:=hx f (by simp[Call.operands])
   cases f<;>dsimp only<;>simp only[hf,hm]
  | builtin b=>
   dsimp only
   cases b<;>dsimp only
   all_goals first|rfl|skip
   all_goals
    generalize hl:args.toList=l at ha
    generalize argTypes.toList=ts
    rcases l with _|⟨x,_|⟨y,_|⟨z,r⟩⟩⟩<;>rcases ts with _|⟨t,_|⟨u,_|⟨t',ts⟩⟩⟩<;>(try dsimp only) <;>
     first|rfl|(have h1:=ha x (by simp);have h2:=ha y (by simp);simp only[h1,h2];done)|(have h1:=ha x (by simp);simp only[h1])
 case makeMap t r=>cases r<;>rfl
 case slice t x lo hi mx=>cases mx<;>cases lo<;>cases hi<;>simp_all
 case next x s=>cases s<;>simp_all
 all_goals first|rfl|(simp only[A32,Array.mem_def,B45,or_false,forall_eq_or_imp,forall_eq] at hx;simp only[hx];done)|(simp_all;done)
theorem AAJ {d:Nx}{c:Bool}{h h':H}{x y:Value}(hd:d≠.ptr):GG d c h' x y=GG d c h x y:=by
 cases d<;>first
  | exact absurd rfl hd
  | (cases x<;>cases y<;>first
    | rfl
    | (rename_i a _ _ b _ _;cases a<;>first|rfl|(cases b<;>rfl))
    | (rename_i a _ _ _;cases a<;>rfl)
    | (rename_i a _ _ _ _;cases a<;>rfl)
    | (rename_i a _ _ _ _ _;cases a<;>rfl)
    | (rename_i a _ _;cases a<;>rfl)
    | (rename_i a b;cases a<;>first|rfl|(cases b<;>rfl))
    | (rename_i a;cases a<;>rfl))
theorem VN {o:Oper}{ρ:Operand→Value}{h h':H}{φ:Value→Prop}(hc:calmB P o=true)(hl:looksB P o=false)(H:Hh P o ρ h fun v _=>φ v):Hh P o ρ h' fun v _=>φ v:=by
 obtain⟨dst,op,type,pos,after,guard⟩:=o
 unfold Hh at H ⊢
 cases op<;>dsimp only at H ⊢<;>(try (exact H))<;>(try (cases hc;done))<;>(try (cases hl;done))
 case binOp op t x y u=>
  cases hst:Ij P t with
  | true=>rw[hst] at H;exact H
  | false=>
   rw[hst] at H
   simp only[cond] at H ⊢
   cases he:LT op with
   | none=>rw[he] at H;exact H
   | some neg=>
    rw[he] at H
    simp only[looksB,he] at hl
    obtain⟨r,hr,hk⟩:=H
    refine⟨r,?_,hk⟩
    generalize Bd P t=d at *
    rw[←hr]
    exact AAJ (by rintro rfl;cases hl)
 case slice t x lo hi mx=>cases mx with|none=>exact H|some _=>exact H.elim
 case convert s d x=>
  simp only[calmB] at hc
  simp only[looksB] at hl
  split at H
  ·exact H
  ·exact H
  ·rename_i h1 h2;simp only[h1,h2] at hc;cases hc
  ·rename_i h1 h2;simp only[h1,h2] at hl;cases hl
  ·exact H.elim
 case call c=>
  obtain⟨callee,args,argTypes⟩:=c
  cases callee with
  | invoke r m=>exact H.elim
  | value f=>cases hc
  | builtin b=>
   dsimp only at H ⊢
   cases b<;>(try (cases hc;done))<;>dsimp only at H ⊢<;>(try (exact H))
   split at H
   ·rename_i x t ha ht
    split at H
    ·exact H
    ·exact H
    ·rename_i hu
     have:argTypes[0]? = some t:=by rw[Gk ht];rfl
     simp only[looksB,this,Option.bind_some,hu] at hl
     cases hl
    ·exact H
   ·exact H
end
end
section
def A9 (a:Act):Env:=fun t=>a.tmps.getD t undef
structure Ef (n:Nat) (a:Act):Prop where
 size:a.tmps.size=n
 defers:a.defers=[]
theorem Gg (a:Act):ev (A9 a)=a.eval:=by funext x;cases x<;>rfl
theorem Ef.put {n:Nat}{a:Act}(g:Ef n a)(d:Option Tmp)(v:Value):Ef n (a.put d v):=by
 cases d with
 | none=>exact g
 | some d=>exact⟨by simp[Act.put,g.size],g.defers⟩
theorem Ef.of_put {n:Nat}{a:Act}{d:Option Tmp}{v:Value}(g:Ef n (a.put d v)):Ef n a:=by
 cases d with
 | none=>exact g
 | some d=>exact⟨by simpa[Act.put] using g.size,g.defers⟩
theorem IS {n:Nat}{a:Act}(g:Ef n a){o:Option Tmp}(hd:∀ d,o=some d→d<n)(v:Value):A9 (a.put o v)=Ns (A9 a) o v:=by
 cases o with
 | none=>rfl
 | some d=>
  funext t
  have hlt:d<a.tmps.size:=by rw[g.size];exact hd d rfl
  show (a.tmps.setIfInBounds d v).getD t undef=bif Nat.beq t d then v else a.tmps.getD t undef
  by_cases ht:t=d
  ·subst ht
   rw[Nat.beq_refl]
   simp[A70,A47,hlt]
  ·have:Nat.beq t d=false:=by
    cases hb:Nat.beq t d with
    | false=>rfl
    | true=>exact absurd (B23 hb) ht
   rw[this]
   simp[A70,A47,Ne.symm ht]
theorem ACs {a:Act}{d:Nat}{b:Bool}(h:A9 a d=.bool b):a.tmps[d]? = some (.bool b):=by
 unfold A9 at h
 rw[A70] at h
 cases hx:a.tmps[d]? with
 | none=>rw[hx] at h;cases h
 | some v=>rw[hx] at h;simp only[B52] at h;rw[h]
section
variable {P:Program} {ops:Array Oper} {Q:Exit→Act→World→Prop}
theorem J8:∀ (f:Nat) (g:Nat×Bool) (a:Act) {A B:Env→Prop},YV ops f g (A9 a) A B →
  (yielded ops a.tmps g.1=some g.2∧A (A9 a))∨(yielded ops a.tmps g.1≠some g.2∧B (A9 a))
 | 0,_,_,_,_=>fun h=>h.elim
 | f+1,(j,want),a,A,B=>fun h=>by
  unfold YV at h
  cases ho:ops[j]? with
  | none=>rw[ho] at h;exact h.elim
  | some oj=>
   rw[ho] at h
   dsimp only at h ⊢
   cases hd:oj.dst with
   | none=>rw[hd] at h;exact h.elim
   | some d=>
    rw[hd] at h
    dsimp only at h
    have hy:∀ b,A9 a d=.bool b→yielded ops a.tmps j=some b:=fun b hb=>by simp[yielded,ho,hd,ACs hb]
    have key:Az (A9 a d) want (A (La (A9 a) d (.bool want))) (B (La (A9 a) d (.bool (!want))))→(yielded ops a.tmps j=some want∧A (A9 a))∨(yielded ops a.tmps j≠some want∧B (A9 a)):=fun h=>by
     rcases T0 h with⟨h1,h2⟩|⟨h1,h2⟩
     ·rw[GU h1] at h2;exact .inl ⟨hy _ h1,h2⟩
     ·rw[GU h1] at h2;exact .inr ⟨by rw[hy _ h1];cases want<;>decide,h2⟩
    cases hg:oj.guard with
    | none=>rw[hg] at h;exact key h
    | some g=>
     rw[hg] at h
     rcases J8 f g a h with⟨_,h2⟩|⟨_,h2⟩
     ·exact key h2
     ·right
      refine⟨?_,?_⟩
      ·intro hyy
       unfold skN at h2
       have:A9 a d=.bool want:=by
        unfold yielded at hyy
        simp only[ho,Option.bind_some,hd] at hyy
        unfold A9
        rw[A70]
        cases hx:a.tmps[d]? with
        | none=>rw[hx] at hyy;cases hyy
        | some v=>
         rw[hx] at hyy
         cases v<;>simp at hyy
         simp[hyy]
       rw[this] at h2
       cases want<;>exact h2
      ·unfold skN at h2
       revert h2
       cases A9 a d<;>first|exact fun h=>h|(rename_i t;cases t<;>cases want<;>first|exact fun h=>h|exact fun h=>h.elim)
theorem Gx {o:Oper}{a:Act}{A B:Env→Prop}(h:U5 ops o.guard (A9 a) A B) :
  (Region.wanted o (yielded ops a.tmps)=true∧A (A9 a))∨(Region.wanted o (yielded ops a.tmps)=false∧B (A9 a)):=by
 unfold U5 at h
 cases hg:o.guard with
 | none=>rw[hg] at h;exact .inl ⟨by simp[Region.wanted,hg],h⟩
 | some g=>
  rw[hg] at h
  rcases J8 9 g a h with⟨h1,h2⟩|⟨h1,h2⟩
  ·exact .inl ⟨by simp[Region.wanted,hg,h1],h2⟩
  ·exact .inr ⟨by simp[Region.wanted,hg,h1],h2⟩
theorem St (hng:Lc P){o:Oper}{a:Act}{w:World}{k:Kt}{K:Act→World→Prop}(h:Hh P o (ev (A9 a)) w.heap k)
  (hK:∀ v w',Ce w w'→k v w'.heap→K (a.put o.dst v) w'):o.wp P a w K Q:=by
 have hr:=AF1 hng h
 rw[Gg] at hr
 unfold Oper.wp
 generalize (execOp a.eval o).run P w=r at *
 cases r with
 | ok n w'=>
  cases n<;>simp only[GA] at hr<;>simp only[Oper.upon]
  case value v=>exact hK v w' hr.1 hr.2
  case skip=>exact hK undef w' hr.1 hr.2
  case enter f args=>
   obtain⟨rfl,hc⟩:=hr
   refine hc.mono fun e w'' he=>?_
   cases e<;>simp only[UD] at he
   exact hK _ w'' he.1 he.2
 | halt x w'=>exact hr.elim
theorem Ix (hng:Lc P){n:Nat}{w0:World}{K:Env→H→Prop}(hQ:∀ a w,Ef n a→Ce w0 w→K (A9 a) w.heap→Q .normal a w):∀ (l:List Oper) (a:Act) (w:World),
  (l.all fun o=>match o.dst with|some d=>Nat.blt d n|none=>true)=true→Ef n a→Ce w0 w→Ed P ops l K (A9 a) w.heap→wpList P ops Q l a w
 | [],a,w,_,g,s,h=>hQ a w g s h
 | o::l,a,w,hl,g,s,h=>by
  simp only[B33,A42] at hl
  have hd:∀ d,o.dst=some d→d<n:=fun d hd=>by
   have:=hl.1
   rw[hd] at this
   simp only[Nat.blt_eq] at this
   exact this
  unfold Ed at h
  unfold wpList
  rcases Gx h with⟨hw,hA⟩|⟨hw,hB⟩
  ·rw[A03 hw]
   refine .inl (St hng hA fun v w' hs hk=>?_)
   rw[←IS g hd] at hk
   exact Ix hng hQ l _ _ hl.2 (g.put _ _) ⟨hs.1.trans s.1,hs.2.trans s.2⟩ hk
  ·rw[A05 (by rw[hw];decide)]
   rw[←IS g hd] at hB
   exact Ix hng hQ l _ _ hl.2 (g.put _ _) s hB
end
end
theorem Fe (s i:Nat):hasB s i=s.testBit i:=by
 unfold hasB
 show Nat.beq ((s >>> i) &&& 1) 1=_
 rw[Nat.and_one_is_mod]
 unfold Nat.testBit
 rw[Nat.one_and_eq_mod_two]
 rcases Nat.mod_two_eq_zero_or_one (s >>> i) with h|h<;>rw[h]<;>rfl
theorem Gq (a b i:Nat):hasB (a ||| b) i=(hasB a i||hasB b i):=by simp only[Fe,Nat.testBit_or]
theorem PZ (j i:Nat):hasB (1 <<< j) i=decide (i=j):=by
 rw[Fe,Nat.testBit_shiftLeft]
 by_cases h:j≤i
 ·by_cases h2:i=j
  ·subst h2;simp
  ·have:i-j≠0:=by omega
   have h1:Nat.testBit 1 (i-j)=false:=Nat.testBit_lt_two_pow (Nat.one_lt_two_pow this)
   simp[h,h2,h1]
 ·have:i≠j:=by omega
  simp[h,this]
theorem FQ (i:Nat):hasB 0 i=false:=by simp[Fe]
theorem Oz {d L:Nat}:Nat.beq (Nat.land d L) d=true↔∀ i,hasB d i=true→hasB L i=true:=by
 rw[Nat.beq_eq]
 show d &&& L=d↔_
 constructor
 ·intro h i hi
  rw[Fe] at hi ⊢
  rw[←h,Nat.testBit_and] at hi
  simp only[A42] at hi
  exact hi.2
 ·intro h
  apply Nat.eq_of_testBit_eq
  intro i
  have:=h i
  simp only[Fe] at this
  rw[Nat.testBit_and]
  cases hd:d.testBit i
  ·rfl
  ·rw[this hd];rfl
theorem PM {L d s:Nat}{ds:List Nat}:EO L (d::ds) s=bif !hasB L s&&Nat.beq (Nat.land d L) d then s::EO L ds (s+1) else EO L ds (s+1):=rfl
theorem Ke {L i:Nat}:∀ (ds:List Nat) (s:Nat),i∈EO L ds s↔∃ t d,ds[t]? = some d∧i=s+t∧hasB L i=false∧Nat.beq (Nat.land d L) d=true
 | [],s=>by simp[EO]
 | d::ds,s=>by
  have ih:=Ke (L:=L) (i:=i) ds (s+1)
  have key:(∃ t d',(d::ds)[t]? = some d'∧i=s+t∧hasB L i=false∧Nat.beq (Nat.land d' L) d'=true) ↔
    (i=s∧hasB L i=false∧Nat.beq (Nat.land d L) d=true)∨∃ t d',ds[t]? = some d'∧i=s+1+t∧hasB L i=false∧Nat.beq (Nat.land d' L) d'=true:=by
   constructor
   ·rintro⟨t,d',h1,h2,h3⟩
    cases t with
    | zero=>simp only[A51,A26] at h1;subst h1;exact .inl ⟨h2,h3⟩
    | succ t=>exact .inr ⟨t,d',by simpa using h1,by omega,h3⟩
   ·rintro (⟨h1,h2⟩|⟨t,d',h1,h2,h3⟩)
    ·exact⟨0,d,rfl,by omega,h2⟩
    ·exact⟨t+1,d',by simpa using h1,by omega,h3⟩
  rw[key,←ih,PM]
  cases hb:(!hasB L s&&Nat.beq (Nat.land d L) d) with
  | true=>
   simp only[A42,B31] at hb
   simp only[cond,A32]
   constructor
   ·rintro (h|h)
    ·subst h;exact .inl ⟨rfl,hb⟩
    ·exact .inr h
   ·rintro (h|h)
    ·exact .inl h.1
    ·exact .inr h
  | false=>
   simp only[cond]
   constructor
   ·exact .inr
   ·rintro (⟨h1,h2,h3⟩|h)
    ·subst h1;rw[h2,h3] at hb;cases hb
    ·exact h
theorem Gb {pl:I3}{i:Nat}:∀ (l:List Nat),EH pl l=some i→i∈l∧pl.calm.getD i false=true
 | [],h=>by cases h
 | j::r,h=>by
  unfold EH at h
  cases hb:pl.calm.getD j false with
  | true=>rw[hb] at h;cases h;exact⟨A13 ..,hb⟩
  | false=>rw[hb] at h;have:=Gb r h;exact⟨A16 _ this.1,this.2⟩
theorem GH {pl:I3}:∀ (l:List Nat),EH pl l=none→∀ i∈l,pl.calm.getD i false=false
 | [],_,i,hi=>by cases hi
 | j::r,h,i,hi=>by
  unfold EH at h
  cases hb:pl.calm.getD j false with
  | true=>rw[hb] at h;cases h
  | false=>
   rw[hb] at h
   rcases A32.1 hi with rfl|hi
   ·exact hb
   ·exact GH r h i hi
theorem KT {L R k:Nat}:∀ (l:List Bool) (s t:Nat),l[t]? = some true→k=s+t→hasB L k=true→hasB R k=false→k∈Ig L R l s
 | [],s,t,h,_,_,_=>by cases h
 | b::r,s,t,h,hk,hL,hR=>by
  unfold Ig
  cases t with
  | zero=>
   simp only[A51,A26] at h
   subst h
   have:k=s:=by omega
   subst this
   rw[hL,hR]
   exact A13 ..
  | succ t=>
   have:=KT (L:=L) (R:=R) r (s+1) t (by simpa using h) (by omega) hL hR
   cases (b&&hasB L s && !hasB R s)<;>simp only[cond]
   ·exact this
   ·exact A16 _ this
theorem JB {P:Program}{ops:Array Oper}{e:Env}{h:H}{A:Prop}:∀ (l:List Nat),Kh P ops l e h A→A∧∀ k∈l,∃ o,ops[k]? = some o ∧
  U5 ops o.guard e (fun e=>Hh P o (ev e) h fun v _=>v=(match o.dst with|some d=>e d|none=>undef)) (fun _=>True)
 | [],h=>⟨h,fun _ hk=>by cases hk⟩
 | j::r,⟨h1,h2⟩=>by
  obtain⟨hA,hr⟩:=JB r h2
  refine⟨hA,fun k hk=>?_⟩
  rcases A32.1 hk with rfl|hk
  ·cases ho:ops[k]? with
   | none=>rw[ho] at h1;exact h1.elim
   | some o=>rw[ho] at h1;exact⟨o,rfl,h1⟩
  ·exact hr k hk
theorem LG {F:Nat→Env→H→Prop}{e:Env}{h:H}:∀ (l:List Nat),OB l F e h→∀ i∈l,F i e h
 | [],_,_,hi=>by cases hi
 | [j],h,i,hi=>by simp only[A32,B45,or_false] at hi;subst hi;exact h
 | j::j'::r,⟨h1,h2⟩,i,hi=>by
  rcases A32.1 hi with rfl|hi
  ·exact h1
  ·exact LG (j'::r) h2 i hi
def ACh (P:Program)(ops:Array Oper):Bool:=
 let pl:=MC P ops.toList
 let lk:=(ops.toList.map fun o=>o.looksAt ops).zipIdx
 let ds:=(ops.toList.map (·.dst)).zipIdx
 ds.all fun p=>match p.1 with
  | none=>true
  | some d=>(lk.all fun q=>!(q.1.any (Nat.beq d))||hasB (pl.befs.getD q.2 0) p.2||(!(pl.calm.getD p.2 true)&&hasB (pl.befs.getD p.2 0) q.2)) &&
    (ds.all fun q=>Nat.beq p.2 q.2||match q.1 with|some d'=>!(Nat.beq d d')|none=>true)
structure JG (P:Program) (ops:Array Oper) (pl:I3):Prop where
 sep:∀ (i k:Nat) (oi ok:Oper) (d:Tmp),ops[i]? = some oi→ops[k]? = some ok→oi.dst=some d→d∈ok.looksAt ops→hasB (pl.befs.getD k 0) i=true∨(calmB P oi=false∧hasB (pl.befs.getD i 0) k=true)
 dist:∀ (i k:Nat) (oi ok:Oper) (d:Tmp),ops[i]? = some oi→ops[k]? = some ok→i≠k→oi.dst=some d→ok.dst≠some d
 nosel:∀ (j:Nat) (o:Oper) cs b,ops[j]? = some o→o.op≠.select cs b
 bef:∀ m k,hasB (pl.befs.getD m 0) k=true→hasB (pl.deps.getD m 0) k=true∨∃ x,hasB (pl.deps.getD m 0) x=true∧hasB (pl.befs.getD x 0) k=true
 dep:∀ (m:Nat) (o:Oper),ops[m]? = some o→pl.deps[m]? = some (depB o)
 len:pl.deps.length=ops.size
 calm:∀ (i:Nat) (o:Oper),ops[i]? = some o→pl.calm.getD i false=calmB P o
 looks:∀ (i:Nat) (o:Oper),ops[i]? = some o→pl.looks[i]? = some (looksB P o)
 asg:∀ (i:Nat) (o:Oper),ops[i]? = some o→pl.asg.getD i false=assignB o
theorem SN {i:Nat}:∀ (l:List Edge) (s:Nat),hasB (l.foldl (fun s e=>bif Region.binds .any e then s ||| (1 <<< e.on) else s) s) i=true↔hasB s i=true∨∃ e∈l,Region.binds .any e=true∧e.on=i
 | [],s=>by simp
 | e::l,s=>by
  rw[A71,SN l]
  cases hb:Region.binds .any e with
  | true=>
   simp only[cond,Gq,PZ,B14,A84]
   constructor
   ·rintro ((h|h)|⟨e',h1,h2⟩)
    ·exact .inl h
    ·exact .inr ⟨e,by simp,hb,h.symm⟩
    ·exact .inr ⟨e',by simp[h1],h2⟩
   ·rintro (h|⟨e',h1,h2,h3⟩)
    ·exact .inl (.inl h)
    ·rcases A32.1 h1 with rfl|h1
     ·exact .inl (.inr h3.symm)
     ·exact .inr ⟨e',h1,h2,h3⟩
  | false=>
   simp only[cond]
   constructor
   ·rintro (h|⟨e',h1,h2⟩)
    ·exact .inl h
    ·exact .inr ⟨e',by simp[h1],h2⟩
   ·rintro (h|⟨e',h1,h2,h3⟩)
    ·exact .inl h
    ·rcases A32.1 h1 with rfl|h1
     ·rw[hb] at h2;cases h2
     ·exact .inr ⟨e',h1,h2,h3⟩
theorem Is {o:Oper}{i:Nat}:hasB (depB o) i=true↔∃ e∈o.after,Region.binds .any e=true∧e.on=i:=by
 unfold depB
 rw[SN]
 simp[FQ]
theorem Ph {d i:Nat}:∀ (l:List (Nat×Nat)) (s:Nat),hasB (l.foldl (fun s x=>bif hasB d x.2 then s ||| x.1 else s) s) i=true→hasB s i=true∨∃ x∈l,hasB d x.2=true∧hasB x.1 i=true
 | [],s,h=>.inl h
 | x::l,s,h=>by
  rw[A71] at h
  rcases Ph l _ h with h|⟨y,h1,h2⟩
  ·cases hb:hasB d x.2 with
   | true=>
    rw[hb] at h
    simp only[cond,Gq,B14] at h
    rcases h with h|h
    ·exact .inl h
    ·exact .inr ⟨x,by simp,hb,h⟩
   | false=>rw[hb] at h;exact .inl h
  ·exact .inr ⟨y,by simp[h1],h2⟩
def Xi (deps:List Nat)(b:List Nat):Prop:=∀ m,m<b.length→∀ k,hasB (b.getD m 0) k=true→hasB (deps.getD m 0) k=true∨∃ x,hasB (deps.getD m 0) x=true∧hasB (b.getD x 0) k=true
theorem ST {deps:List Nat}:∀ (r acc:List Nat),Xi deps acc→deps.drop acc.length=r→Xi deps (RT r acc)∧(RT r acc).length=acc.length+r.length
 | [],acc,h,_=>⟨h,rfl⟩
 | d::r,acc,h,hd=>by
  have hdm:deps.getD acc.length 0=d:=by
   have:(deps.drop acc.length)[0]? = some d:=by rw[hd];rfl
   rw[A53,A58] at this
   rw[A10,this];rfl
  have hr:deps.drop (acc.length+1)=r:=by
   rw[←A64,hd];rfl
  let x:=acc.zipIdx.foldl (fun s x=>bif hasB d x.2 then s ||| x.1 else s) d
  have hx:Xi deps (acc++[x]):=by
   intro m hm k hk
   have old:∀ y,y<acc.length→(acc++[x]).getD y 0=acc.getD y 0:=fun y hy=>by
    rw[A10,A18 hy,A10]
   have mono:∀ y k,hasB (acc.getD y 0) k=true→hasB ((acc++[x]).getD y 0) k=true:=fun y k hy=>by
    by_cases hlt:y<acc.length
    ·rw[old y hlt];exact hy
    ·rw[A10,A40 (by omega)] at hy
     simp[FQ] at hy
   by_cases hlt:m<acc.length
   ·rw[old m hlt] at hk
    rcases h m hlt k hk with h1|⟨y,h1,h2⟩
    ·exact .inl h1
    ·exact .inr ⟨y,h1,mono y k h2⟩
   ·have hm':m=acc.length:=by simp at hm;omega
    subst hm'
    rw[hdm]
    have hlast:(acc++[x]).getD acc.length 0=x:=by simp[A10]
    rw[hlast] at hk
    rcases Ph _ _ hk with h1|⟨⟨y,t⟩,h1,h2,h3⟩
    ·exact .inl h1
    ·refine .inr ⟨t,h2,?_⟩
     have:=B27.1 h1
     refine mono t k ?_
     rw[A10,this]
     exact h3
  have:=ST r (acc++[x]) hx (by simpa using hr)
  refine⟨this.1,?_⟩
  show (RT r (acc++[x])).length=_
  rw[this.2]
  simp[B62,B54 1]
theorem Xw {P:Program}{ops:Array Oper}(h:ACh P ops=true)(hs:Region.noSelect ops=true):JG P ops (MC P ops.toList):=by
 have hget:∀ {i:Nat} {o:Oper},ops[i]? = some o→ops.toList[i]? = some o:=fun h=>by simpa using h
 have hmap:∀ {β:Type} (f:Oper→β) {i:Nat} {o:Oper},ops[i]? = some o→(ops.toList.map f)[i]? = some (f o):=fun f i o h=>by
  rw[A21,hget h];rfl
 have hcalm:∀ i o b,ops[i]? = some o→(MC P ops.toList).calm.getD i b=calmB P o:=fun i o b h=>by
  show (ops.toList.map (calmB P)).getD i b=_
  rw[A10,hmap _ h];rfl
 have hb:=ST (deps:=ops.toList.map depB) (ops.toList.map depB) [] (fun m hm=>by cases hm) rfl
 unfold ACh at h
 simp only[B10] at h
 have hz:∀ {i:Nat} {o:Oper} {d:Nat},ops[i]? = some o→o.dst=some d→(o.dst,i)∈(ops.toList.map (·.dst)).zipIdx:=fun ho hd=>B27.2 (hmap _ ho)
 refine⟨?_,?_,Region.noSelect_spec hs,?_,fun m o ho=>hmap _ ho,by simp[MC],fun i o=>hcalm i o false,fun i o ho=>hmap _ ho,fun i o ho=>?_⟩
 ·intro i k oi ok d hi hk hd hmem
  have h1:=h _ (hz hi hd)
  simp only[hd,A42,B10] at h1
  have h2:=h1.1 (ok.looksAt ops,k) (B27.2 (hmap (fun o=>o.looksAt ops) hk))
  simp only[B14,B31,A42] at h2
  rcases h2 with (h2|h2)|h2
  ·rw[List.any_eq_false] at h2
   exact absurd (Nat.beq_refl d) (h2 d hmem)
  ·exact .inl h2
  ·rw[hcalm i oi true hi] at h2;exact .inr h2
 ·intro i k oi ok d hi hk hne hd hd'
  have h1:=h _ (hz hi hd)
  simp only[hd,A42,B10] at h1
  have h2:=h1.2 (ok.dst,k) (B27.2 (hmap (·.dst) hk))
  simp only[hd',B14,B31] at h2
  rcases h2 with h2|h2
  ·exact hne (B23 h2)
  ·rw[Nat.beq_refl] at h2;cases h2
 ·intro m k hk
  by_cases hlt:m<(RT (ops.toList.map depB) []).length
  ·exact hb.1 m hlt k hk
  ·have:(MC P ops.toList).befs.getD m 0=0:=by
    show (RT (ops.toList.map depB) []).getD m 0=0
    rw[A10,A40 (by omega)];rfl
   rw[this,FQ] at hk
   cases hk
 ·show (ops.toList.map assignB).getD i false=_
  rw[A10,hmap _ ho];rfl
section
section
variable {P:Program} {ops:Array Oper} {Q:Exit→Act→World→Prop} {pl:I3} {n:Nat}
theorem X2 {o:Oper}{ρ:Operand→Value}{h:H}{k:Kt}(hc:calmB P o=true)(hh:Hh P o ρ h k):∃ v,k v h∧Hh P o ρ h fun v' _=>v'=v:=by
 obtain⟨dst,op,type,pos,after,guard⟩:=o
 unfold Hh at hh ⊢
 cases op<;>dsimp only at hh ⊢<;>(try (cases hc;done))<;>(try (exact hh.elim))
 case move x=>exact⟨_,hh,rfl⟩
 case pick c a b=>
  unfold Hk at hh ⊢
  split at hh
  ·exact⟨_,hh,rfl⟩
  ·exact hh.elim
 case build t parts=>
  split at hh
  ·exact hh.elim
  ·obtain⟨zv,cs,h1,h2,h3⟩:=hh
   exact⟨_,h3,zv,cs,h1,h2,rfl⟩
 case load t a=>
  cases ho:ED P t<;>rw[ho] at hh
  ·exact hh.elim
  ·obtain⟨p,v,h1,h2,h3⟩:=hh
   exact⟨_,h3,p,v,h1,h2,rfl⟩
 case nilCheck x=>exact⟨_,hh.2,hh.1,rfl⟩
 case binOp op t x y u=>
  cases hst:Ij P t with
  | true=>rw[hst] at hh;obtain⟨v,h1,h2⟩:=hh;exact⟨_,h2,v,h1,rfl⟩
  | false=>
   rw[hst] at hh
   simp only[cond] at hh ⊢
   cases he:LT op with
   | none=>rw[he] at hh;exact hh.elim
   | some neg=>rw[he] at hh;obtain⟨v,h1,h2⟩:=hh;exact⟨_,h2,v,h1,rfl⟩
 case unOp=>obtain⟨v,h1,h2⟩:=hh;exact⟨_,h2,v,h1,rfl⟩
 case convert s d x=>
  simp only[calmB] at hc
  split at hh
  ·obtain⟨a,b,h1,h2⟩:=hh;exact⟨_,h2,a,b,h1,rfl⟩
  ·exact⟨_,hh.2,hh.1,rfl⟩
  ·rename_i h1 h2;simp only[h1,h2] at hc;cases hc
  ·split at hh
   ·obtain⟨v,h1,h2⟩:=hh;exact⟨_,h2,v,h1,rfl⟩
   ·exact hh.elim
  ·exact hh.elim
 case makeInterface t x=>
  split at hh
  ·exact hh.elim
  ·exact⟨_,hh,rfl⟩
  ·exact hh.elim
 case makeFunc=>exact⟨_,hh,rfl⟩
 case slice t x lo hi mx=>
  cases mx with
  | none=>obtain⟨v,h1,h2⟩:=hh;exact⟨_,h2,v,h1,rfl⟩
  | some _=>exact hh.elim
 case fieldAddr t x f=>
  split at hh
  ·obtain⟨v,h1,h2⟩:=hh;exact⟨_,h2,v,h1,rfl⟩
  ·exact hh.elim
 case field t x f=>
  split at hh
  ·split at hh
   ·rename_i fd _
    cases ho:ED P fd.type<;>rw[ho] at hh
    ·exact hh.elim
    ·obtain⟨a,v,h1,h2,h3⟩:=hh;exact⟨_,h3,a,v,h1,h2,rfl⟩
   ·exact hh.elim
  ·exact hh.elim
 case indexAddr t x i=>
  obtain⟨kk,m,h1,h2⟩:=hh
  generalize hd:C2 P t=d at *
  cases d<;>dsimp only at h2<;>(try (exact h2.elim))
  ·obtain⟨a,l,c,h3,h4,h5,h6⟩:=h2
   refine⟨_,h6,?_⟩
   unfold AI
   exact⟨kk,m,h1,a,l,c,h3,h4,h5,rfl⟩
  ·obtain⟨a,h3,h4,h5,h6⟩:=h2
   refine⟨_,h6,?_⟩
   unfold AI
   exact⟨kk,m,h1,a,h3,h4,h5,rfl⟩
 case index t x i=>
  split at hh
  ·obtain⟨a,b,c,d,h1,h2,h3,h4,h5⟩:=hh;exact⟨_,h5,a,b,c,d,h1,h2,h3,h4,rfl⟩
  ·rename_i m el _
   cases ho:ED P el<;>rw[ho] at hh
   ·exact hh.elim
   ·obtain⟨a,b,c,d,h1,h2,h3,h4,h5,h6⟩:=hh;exact⟨_,h6,a,b,c,d,h1,h2,h3,h4,h5,rfl⟩
  ·exact hh.elim
 case lookup t x i ok=>
  split at hh
  ·obtain⟨h1,a,b,h2,h3,h4⟩:=hh;exact⟨_,h4,h1,a,b,h2,h3,rfl⟩
  ·exact hh.elim
 case entry x=>
  obtain⟨a,b,c,d,e,f,g,i,h1,h2,h3,h4,h5,h6⟩:=hh
  exact⟨_,h6,a,b,c,d,e,f,g,i,h1,h2,h3,h4,h5,rfl⟩
 case typeAssert x xt t ok=>
  split at hh
  ·exact hh.elim
  ·obtain⟨zv,h1,h2⟩:=hh
   unfold FP
   generalize ρ x=y at *
   cases y<;>dsimp only at h2<;>(try (exact h2.elim))
   case nilIface=>exact⟨_,h2.2,zv,h1,h2.1,rfl⟩
   case iface t' u=>
    by_cases ht:t'=t
    ·rw[A03 ht] at h2
     exact⟨_,h2,zv,h1,by dsimp only;rw[A03 ht]⟩
    ·rw[A05 ht] at h2
     exact⟨_,h2.2,zv,h1,by dsimp only;rw[A05 ht];exact⟨h2.1,rfl⟩⟩
  ·exact hh.elim
 case extract x i=>obtain⟨a,b,h1,h2,h3⟩:=hh;exact⟨_,h3,a,b,h1,h2,rfl⟩
 case call c=>
  obtain⟨callee,args,argTypes⟩:=c
  cases callee with
  | invoke r m=>exact hh.elim
  | value f=>cases hc
  | builtin b=>
   dsimp only at hh ⊢
   cases b<;>(try (cases hc;done))<;>dsimp only at hh ⊢
   case len=>
    split at hh
    ·split at hh
     ·obtain⟨a,h1,h2⟩:=hh;exact⟨_,h2,a,h1,rfl⟩
     ·obtain⟨a,b,c,h1,h2⟩:=hh;exact⟨_,h2,a,b,c,h1,rfl⟩
     ·rcases hh with⟨h1,h2⟩|⟨a,b,c,h1,h2,h3⟩
      ·exact⟨_,h2,.inl ⟨h1,rfl⟩⟩
      ·exact⟨_,h3,.inr ⟨a,b,c,h1,h2,rfl⟩⟩
     ·exact hh.elim
    ·exact hh.elim
   case cap=>
    split at hh
    ·split at hh
     ·obtain⟨a,b,c,h1,h2⟩:=hh;exact⟨_,h2,a,b,c,h1,rfl⟩
     ·exact hh.elim
    ·exact hh.elim
   case min=>
    split at hh
    ·obtain⟨a,b,c,h1,h2,h3⟩:=hh;exact⟨_,h3,a,b,c,h1,h2,rfl⟩
    ·exact hh.elim
   case max=>
    split at hh
    ·obtain⟨a,b,c,h1,h2,h3⟩:=hh;exact⟨_,h3,a,b,c,h1,h2,rfl⟩
    ·exact hh.elim
def YN (P:Program)(ops:Array Oper)(a:Act)(h:H)(o:Oper)(v:Value):Prop:=
 (Region.wanted o (yielded ops a.tmps)=true∧Hh P o a.eval h fun v' _=>o.dst.isSome=true→v'=v)∨(Region.wanted o (yielded ops a.tmps)=false∧v=undef)
def Fh (a:Act)(o:Oper):Value:=match o.dst with|some d=>a.tmps.getD d undef|none=>undef
theorem YN.wpOp {i:Nat}{o:Oper}{v:Value}{a:Act}{w:World}{K:Act→World→Prop}(hi:ops[i]? = some o)(hc:calmB P o=true)(hy:YN P ops a w.heap o v)(hK:K (a.put o.dst v) w):wpOp P ops Q i K a w:=by
 unfold Go.wpOp
 simp only[hi]
 rcases hy with⟨hw,hv⟩|⟨hw,rfl⟩
 ·rw[A03 hw]
  rw[←Gg] at hv
  obtain⟨v',hr,hv'⟩:=Z5 hc hv
  rw[Gg] at hr
  refine .inl ?_
  unfold Oper.wp
  rw[hr]
  show K (a.put o.dst v') w
  cases hd:o.dst with
  | none=>rw[hd] at hK;exact hK
  | some d=>rw[hd] at hv' hK;rw[hv' rfl];exact hK
 ·rw[A05 (by rw[hw];decide)];exact hK
theorem YN.put {a:Act}{h:H}{o:Oper}{v u:Value}{d:Option Tmp}(hd:∀ x,d=some x→x∉o.looksAt ops):YN P ops (a.put d u) h o v↔YN P ops a h o v:=by
 unfold YN
 rw[wanted_put o a d u hd,UV (ρ:=(a.put d u).eval) (ρ':=a.eval) fun x hx=>Act.eval_put fun e he hxe=>hd e he (by
  subst hxe
  exact A81 _ (List.mem_filterMap.2 ⟨.tmp e,by simpa using hx,rfl⟩))]
theorem YN.slot {a:Act}{h:H}{o:Oper}{v:Value}(g:Ef n a)(hd:∀ d,o.dst=some d→d<n)(hy:YN P ops a h o v):YN P ops a h o (Fh (a.put o.dst v) o):=by
 unfold Fh
 cases ho:o.dst with
 | none=>
  dsimp only
  rcases hy with⟨h1,h2⟩|⟨h1,h2⟩
  ·exact .inl ⟨h1,El (fun _ _ _ hx=>by rw[ho] at hx;cases hx) h2⟩
  ·exact .inr ⟨h1,rfl⟩
 | some d=>
  have hlt:d<a.tmps.size:=by rw[g.size];exact hd d ho
  have:(a.put (some d) v).tmps.getD d undef=v:=by
   simp[Act.put,A70,A47,hlt]
  dsimp only
  rw[this]
  exact hy
theorem WD {a:Act}{o:Oper}{v:Value}:a.put o.dst (Fh (a.put o.dst v) o)=a.put o.dst v∨¬∀ d,o.dst=some d→d<a.tmps.size:=by
 cases ho:o.dst with
 | none=>exact .inl rfl
 | some d=>
  by_cases hlt:d<a.tmps.size
  ·left
   unfold Fh
   rw[ho]
   dsimp only
   have:(a.put (some d) v).tmps.getD d undef=v:=by
    simp[Act.put,A70,A47,hlt]
   rw[this]
  ·exact .inr fun h=>hlt (h d rfl)
theorem EZ {a:Act}{o:Oper}{d:Option Tmp}{u:Value}(h:∀ x,d=some x→o.dst≠some x):Fh (a.put d u) o=Fh a o:=by
 unfold Fh
 cases ho:o.dst with
 | none=>rfl
 | some e=>
  cases d with
  | none=>rfl
  | some x=>
   have hne:x≠e:=fun hx=>h x rfl (by rw[ho,hx])
   simp[Act.put,A70,A47,hne]
def RN (P:Program)(ops:Array Oper)(pl:I3)(R j:Nat):Nat:=match ops[j]? with|some o=>if calmB P o=true then R else R ||| pl.befs.getD j 0|none=>R
def JF (P:Program)(ops:Array Oper)(listed:Array Bool)(R:Nat)(a:Act)(h:H):Prop:=
 ∀ (k:Nat) (o:Oper),ops[k]? = some o→calmB P o=true→listed.getD k false=true→hasB R k=false→YN P ops a h o (Fh a o)
def wpX (P:Program)(ops:Array Oper)(pl:I3)(n:Nat)(Q:Exit→Act→World→Prop):Nat→Array Bool→Nat→Act→World→Prop
 | 0,listed,_,a,w=>Region.ready .any ops listed=[]∧Q .normal a w
 | f+1,listed,R,a,w=>(Region.ready .any ops listed=[]→Q .normal a w)∧∀ j∈Region.ready .any ops listed,
   wpOp P ops Q j (fun a' w'=>Ef n a'∧JF P ops (listed.setIfInBounds j true) (RN P ops pl R j) a' w'.heap∧wpX P ops pl n Q f (listed.setIfInBounds j true) (RN P ops pl R j) a' w') a w
theorem Kz:∀ (f:Nat) (listed:Array Bool) (R:Nat) (a:Act) (w:World),wpX P ops pl n Q f listed R a w→wpAny P .any ops Q f listed a w
 | 0,_,_,_,_,h=>h
 | f+1,_,_,_,_,h=>⟨h.1,fun j hj=>wpOp_mono (fun a' w' h'=>Kz f _ _ a' w' h'.2.2) (h.2 j hj)⟩
structure YU (ops:Array Oper) (pl:I3) (listed:Array Bool) (R:Nat):Prop where
 size:listed.size=ops.size
 cl:∀ m k,listed.getD m false=true→hasB (pl.befs.getD m 0) k=true→listed.getD k false=true
 re:∀ k,hasB R k=true→listed.getD k false=true
theorem CV {listed:Array Bool}{R j:Nat}(I:YU ops pl listed R)(hj:j∈Region.ready .any ops listed) :
  listed.getD j false=false∧∃ o,ops[j]? = some o∧∀ e∈o.after,Region.binds .any e=true→listed.getD e.on false=true:=by
 obtain⟨h1,o,ho,h2⟩:=mem_ready.1 hj
 have hlt:j<listed.size:=by rw[I.size];exact (A46.1 ho).1
 refine⟨?_,o,ho,h2⟩
 simpa[Array.getD,hlt] using h1
theorem G6 (rg:JG P ops pl){listed:Array Bool}{R j:Nat}(I:YU ops pl listed R)(hj:j∈Region.ready .any ops listed)(k:Nat)(hk:hasB (pl.befs.getD j 0) k=true):listed.getD k false=true:=by
 obtain⟨_,o,ho,h2⟩:=CV I hj
 have hdep:∀ x,hasB (pl.deps.getD j 0) x=true→listed.getD x false=true:=fun x hx=>by
  rw[A10,rg.dep j o ho] at hx
  obtain⟨e,h3,h4,h5⟩:=Is.1 hx
  rw[←h5]
  exact h2 e h3 h4
 rcases rg.bef j k hk with h|⟨x,h,h'⟩
 ·exact hdep k h
 ·exact I.cl x k (hdep x h) h'
theorem Bn {listed:Array Bool}{i j:Nat}(hi:i<listed.size):(listed.setIfInBounds i true).getD j false=true↔j=i∨listed.getD j false=true:=by
 by_cases h:i=j
 ·subst h;simp[hi]
 ·rw[getD_set_ne false h]
  constructor
  ·exact .inr
  ·rintro (h'|h')
   ·exact absurd h'.symm h
   ·exact h'
theorem YU.step (rg:JG P ops pl){listed:Array Bool}{R j:Nat}(I:YU ops pl listed R)(hj:j∈Region.ready .any ops listed):YU ops pl (listed.setIfInBounds j true) (RN P ops pl R j):=by
 obtain⟨_,o,ho,_⟩:=CV I hj
 have hlt:j<listed.size:=by rw[I.size];exact (A46.1 ho).1
 refine⟨by simp[I.size],fun m k hm hk=>?_,fun k hk=>?_⟩
 ·rw[Bn hlt] at hm ⊢
  rcases hm with rfl|hm
  ·exact .inr (G6 rg I hj k hk)
  ·exact .inr (I.cl m k hm hk)
 ·rw[Bn hlt]
  unfold RN at hk
  rw[ho] at hk
  dsimp only at hk
  split at hk
  ·exact .inr (I.re k hk)
  ·rw[Gq,B14] at hk
   rcases hk with hk|hk
   ·exact .inr (I.re k hk)
   ·exact .inr (G6 rg I hj k hk)
theorem H4 {R j:Nat}{o:Oper}(ho:ops[j]? = some o)(hc:calmB P o=true):RN P ops pl R j=R:=by simp[RN,ho,hc]
theorem Mx {R j:Nat}{o:Oper}(ho:ops[j]? = some o)(hc:calmB P o=false):RN P ops pl R j=R ||| pl.befs.getD j 0:=by simp[RN,ho,hc]
theorem F3 (rg:JG P ops pl){listed:Array Bool}{R j k:Nat}{oj ok:Oper}(I:YU ops pl listed R)(hj:j∈Region.ready .any ops listed)(hoj:ops[j]? = some oj)(hok:ops[k]? = some ok)
  (hk:k=j∨listed.getD k false=true) (hR:hasB (RN P ops pl R j) k=false):∀ x,oj.dst=some x→x∉ok.looksAt ops:=by
 intro x hx hmem
 have hn:=(CV I hj).1
 rcases rg.sep j k oj ok x hoj hok hx hmem with h|⟨h1,h2⟩
 ·rcases hk with rfl|hk
  ·rw[G6 rg I hj _ h] at hn;cases hn
  ·rw[I.cl k j hk h] at hn;cases hn
 ·rw[Mx hoj h1,Gq,h2,Bool.or_true] at hR;cases hR
theorem NK {j:Nat}{oi oj:Oper}{v:Value}(hj:ops[j]? = some oj)(h1:∀ d,oi.dst=some d→d∉oj.looksAt ops)(h2:∀ d,oi.dst=some d→oj.dst≠some d)
  (hsj:∀ cs b,oj.op≠.select cs b) (hQ:∀ c a w,¬Q (.panic c) a w) {K:Act→World→Prop} {a:Act} {w:World} (h:wpOp P ops Q j K (a.put oi.dst v) w) :
  wpOp P ops Q j (fun a' w'=>K (a'.put oi.dst v) w') a w:=by
 unfold wpOp at *
 simp only[hj] at *
 rw[wanted_put oj a oi.dst v h1] at h
 split
 ·rename_i hw
  simp only[hw,if_true] at h
  rcases h with h|⟨hasks,hlets⟩
  case inr=>exact .inr ⟨by unfold Oper.asks at *;rw[execOp_put oj hsj a oi.dst v h1] at hasks;exact hasks,hlets⟩
  refine .inl ?_
  unfold Oper.wp at *
  rw[execOp_put oj hsj a oi.dst v h1] at h
  generalize (execOp a.eval oj).run P w=r at *
  cases r with
  | ok n w'=>
   cases n<;>simp only[Oper.upon] at h ⊢
   case value u=>rw[←Act.put_comm a v u h2];exact h
   case skip=>rw[←Act.put_comm a v undef h2];exact h
   case defer d=>rw[←Act.put_comm _ v undef h2,←Act.put_defers];exact h
   case enter f args=>
    refine Calls.mono h fun e w'' he=>?_
    cases e with
    | returned u=>dsimp only at he ⊢;rw[←Act.put_comm a v u h2];exact he
    | panicked c=>exact (hQ _ _ _ he).elim
    | outgrown=>exact he
   case row row args=>exact Rows.mono h fun u w'' he=>by rw[←Act.put_comm a v u h2];exact he
  | halt x w'=>
   cases x<;>simp only[Oper.upon] at h ⊢
   case panic u=>exact (hQ _ _ _ h).elim
 ·rename_i hw
  simp only[hw] at h
  rw[←Act.put_comm a v undef h2];exact h
theorem Ha (rg:JG P ops pl){i:Nat}{oi:Oper}{v:Value}{listed:Array Bool}{R:Nat}{a:Act}{h:H}(hd:∀ (k:Nat) (o:Oper) (d:Nat),ops[k]? = some o→o.dst=some d→d<n)(I:YU ops pl listed R)(g:Ef n a)
  (hr:i∈Region.ready .any ops listed) (hi:ops[i]? = some oi) (hc:calmB P oi=true) (hy:YN P ops a h oi v) (hG:JF P ops listed R a h):JF P ops (listed.setIfInBounds i true) R (a.put oi.dst v) h:=by
 intro k ok hok hck hlk hRk
 have hlt:i<listed.size:=by rw[I.size];exact (A46.1 hi).1
 have hRN:RN P ops pl R i=R:=H4 hi hc
 have hap:=F3 rg I hr hi hok ((Bn hlt).1 hlk) (by rw[hRN];exact hRk)
 by_cases hki:k=i
 ·subst hki
  rw[hi] at hok;cases hok
  rw[YN.put hap]
  exact hy.slot g fun d h=>hd _ _ d hi h
 ·have hlk':listed.getD k false=true:=((Bn hlt).1 hlk).resolve_left hki
  rw[YN.put hap,EZ fun x hx=>rg.dist i k oi ok x hi hok (Ne.symm hki) hx]
  exact hG k ok hok hck hlk' hRk
theorem first (rg:JG P ops pl)(hd:∀ (k:Nat) (o:Oper) (d:Nat),ops[k]? = some o→o.dst=some d→d<n)(hQ:∀ c a w,¬Q (.panic c) a w){i:Nat}{oi:Oper}(hi:ops[i]? = some oi)(hc:calmB P oi=true) :
  ∀ (f:Nat) (listed:Array Bool) (R:Nat) (a:Act) (w:World) (v:Value),YU ops pl listed R→i∈Region.ready .any ops listed→Ef n a→YN P ops a w.heap oi v→JF P ops listed R a w.heap →
   wpX P ops pl n Q f (listed.setIfInBounds i true) R (a.put oi.dst v) w→wpX P ops pl n Q (f+1) listed R a w:=by
 intro f
 induction f with
 | zero=>
  intro listed R a w v I hr g hy hG H
  refine⟨fun h=>(by rw[h] at hr;cases hr),fun j hj=>?_⟩
  by_cases hji:j=i
  ·subst hji
   rw[H4 hi hc]
   exact hy.wpOp hi hc ⟨g.put _ _,Ha rg hd I g hr hi hc hy hG,H⟩
  ·have:=ready_mono hj hji
   rw[H.1] at this
   cases this
 | succ f ih=>
  intro listed R a w v I hr g hy hG H
  refine⟨fun h=>(by rw[h] at hr;cases hr),fun j hj=>?_⟩
  by_cases hji:j=i
  ·subst hji
   rw[H4 hi hc]
   exact hy.wpOp hi hc ⟨g.put _ _,Ha rg hd I g hr hi hc hy hG,H⟩
  ·have hlti:i<listed.size:=by rw[I.size];exact (A46.1 hi).1
   obtain⟨hjn,oj,hoj,_⟩:=CV I hj
   have hin:=(CV I hr).1
   have hltj:j<listed.size:=by rw[I.size];exact (A46.1 hoj).1
   have hnb:hasB (pl.befs.getD j 0) i=false:=by
    cases hb:hasB (pl.befs.getD j 0) i with
    | false=>rfl
    | true=>rw[G6 rg I hj i hb] at hin;cases hin
   have hRi:hasB (RN P ops pl R j) i=false:=by
    cases hb:hasB (RN P ops pl R j) i with
    | false=>rfl
    | true=>
     have:=(I.step rg hj).re i hb
     rw[Bn hltj,hin] at this
     rcases this with h|h
     ·exact absurd h.symm hji
     ·cases h
   have hap:∀ d,oi.dst=some d→d∉oj.looksAt ops:=fun d h h'=>by
    rcases rg.sep i j oi oj d hi hoj h h' with h3|⟨h3,_⟩
    ·rw[h3] at hnb;cases hnb
    ·rw[hc] at h3;cases h3
   have hself:∀ d,oi.dst=some d→d∉oi.looksAt ops:=F3 rg I hr hi hi (.inl rfl) (by
    rw[H4 hi hc]
    cases hb:hasB R i with
    | false=>rfl
    | true=>rw[I.re i hb] at hin;cases hin)
   have h2:=NK hoj hap (fun d h=>rg.dist i j oi oj d hi hoj (Ne.symm hji) h) (fun cs b=>rg.nosel j oj cs b hoj) hQ (H.2 j (ready_mono hj hji))
   refine wpOp_mono (fun a' w' h3=>?_) h2
   obtain⟨g3,G3,X3⟩:=h3
   have g':Ef n a':=g3.of_put
   have I':=I.step rg hj
   have hij:i∈Region.ready .any ops (listed.setIfInBounds j true):=ready_mono hr (Ne.symm hji)
   have y0:=G3 i oi hi hc (by rw[Bn (by simpa using hltj),Bn hlti];exact .inr (.inl rfl)) hRi
   rw[YN.put hself] at y0
   have hG':JF P ops (listed.setIfInBounds j true) (RN P ops pl R j) a' w'.heap:=by
    intro k ok hok hck hlk hRk
    have hki:k≠i:=by
     rintro rfl
     rw[Bn hltj,hin] at hlk
     rcases hlk with h|h
     ·exact hji h.symm
     ·cases h
    have y:=G3 k ok hok hck (by
     rw[Bn (by simpa using hltj),Bn hlti]
     rcases (Bn hltj).1 hlk with h|h
     ·exact .inl h
     ·exact .inr (.inr h)) hRk
    rw[YN.put (fun d h h'=>?_),EZ fun x hx=>rg.dist i k oi ok x hi hok (Ne.symm hki) hx] at y
    ·exact y
    ·rcases rg.sep i k oi ok d hi hok h h' with h3|⟨h3,_⟩
     ·have:=I'.cl k i hlk h3
      rw[Bn hltj,hin] at this
      rcases this with h|h
      ·exact hji h.symm
      ·cases h
     ·rw[hc] at h3;cases h3
   refine⟨g',hG',ih _ _ a' w' (Fh (a'.put oi.dst v) oi) I' hij g' y0 hG' ?_⟩
   have hps:a'.put oi.dst (Fh (a'.put oi.dst v) oi)=a'.put oi.dst v:=WD.resolve_right fun h=>h fun d h=>by rw[g'.size];exact hd i oi d hi h
   rw[hps,Array.setIfInBounds_comm _ _ hji]
   exact X3
end
end
end Go.Proofs.YtollddkkdgoonaaGreatDoor
