/- FnPlanInImage answers true, where what it reads is of bulk at most 1048576: the card. No condition but the row's own. -/
import Derived.Test.YtollddkkdgoonaaGreatDoorM26
namespace Go.Proofs.YtollddkkdgoonaaGreatDoor
open Go
set_option linter.unusedVariables false
set_option linter.unusedSimpArgs false
set_option maxRecDepth 100000
section
variable {h:H} {k:Value→Prop} {kt Q:Kt} {x y z r:Res}
attribute [local irreducible] AK Az AQ BB Ae AY AH AM PIt.cells TN.cells
section
variable {its:List It} {ts:List TN} {ix:Nat→Nat} {b1 b3 b4 b6:Nat} {nsv fv:Value} {ns:List Value} {F:List Int} {S:List Nat} {c:Nat}
abbrev wkV (b1 b3 b4 b6:Nat):Value:=.func (.func 89) #[] #[Pt b4,Pt b1,Pt b3,Pt b6]
abbrev wkR (b1 b3 b4 b6:Nat)(nsv fv ov:Value)(rF rO:Res):Res:=rF+(pts b4 (.cells ⟨[fv]⟩ 61 (0,0))+(pts b1 (.cells ⟨[nsv]⟩ 40 (0,0))+(pts b3 (.cells ⟨[ov]⟩ 40 (0,0))+(rO+pts b6 (.cells ⟨[wkV b1 b3 b4 b6]⟩ 180 (0,0))))))
def WkS (b1 b3 b4 b6:Nat)(nsv fv:Value)(N:Nat)(x:Res)(F:List Int)(h:H):Prop:=
 F.length=N∧AKx F∧∃ ov os rF rO y,Vec 3 1 fv N (AJA F) rF∧Vec 63 18 ov (AI3 F) os rO∧AN (wkR b1 b3 b4 b6 nsv fv ov rF rO+(y+x)) h
theorem AJI {i:Nat}{e:Int}(h:F[i]? = some e):(AJA F)[i]? = some (.int .i64 e):=by unfold AJA;rw[A21,h];rfl
theorem s89 (hio:A7 its)(hn:its.length≤2000)(tx:ABG its ts ix)(hts:∀ t∈ts,t.ks.length<1000000000):∀ (m c:Nat),12+its.length≤c+m→c∈VV its→∀ (x:Res) (S:List Nat) (F:List Int) (h:H) (Q:Kt),RdV 18 nsv ts.length ns x→TreeV x ns ts→AJ2 its ix S F→WkS b1 b3 b4 b6 nsv fv ts.length x F h →
  (∀ F' h' (j:Int),WkS b1 b3 b4 b6 nsv fv ts.length x F' h'→AJ2 its ix S F'→(∀ a,Vis F a→Vis F' a)→Vis F' (ix c)→Q (.int .i64 j) h')→Call TP 89 [.int .i64 (ix c:Nat),Pt b4,Pt b1,Pt b3,Pt b6] h Q:=by
 intro m
 induction m with
 | zero=>
  intro c hm hc
  rcases BE.1 hc with h|h<;>omega
 | succ m ih=>
  intro c hm hc x S F h Q d tv iv ws K
  have QP:=ws
  obtain⟨hFl,fr,ov,os,rF,rO,y,a,ao,w⟩:=ws
  obtain⟨t,ht,nt⟩:=tx.node c hc
  have hil:=(A02.1 ht).1
  have hFc:=AJv F
  have htl:ts.length≤2002:=by rw[tx.len];omega
  obtain⟨e,he⟩:∃ e,F[ix c]? = some e:=⟨_,A00 (by omega)⟩
  refine AKz ?_
  unfold f89 Uld Uil Ucm Ufl Umk
  refine AW w (show (⟨[fv]⟩:Array Value)[0]? = some fv from rfl) ?_
  refine (a.rdv.addL.addL:RdV 1 fv ts.length (AJA F) _).get w (AJI he) ?_
  rw[BD]
  refine AX (fun h0=>?_) (fun h0=>?_)
  ·refine AW w (show (⟨[fv]⟩:Array Value)[0]? = some fv from rfl) ?_
   refine (a.rdv.addL.addL:RdV 1 fv ts.length (AJA F) _).get w (AJI he) ?_
   exact K F h e QP iv (fun _ v=>v) ⟨e,he,h0⟩
  ·have hem:e = -1:=by
    rcases fr e (A28 he) with h1|h1
    ·exact h1
    ·omega
   subst hem
   obtain⟨dv,nv,kv,q1,q2,q3,q4⟩:=tv.get ht
   obtain⟨da,dc,hdv⟩:=q2.len
   obtain⟨⟨na,nc,hnv⟩,_⟩:=q3.len
   obtain⟨⟨ka,kc,hkv⟩,_⟩:=q4.len
   have hone:(t.cells dv (.slice none 0 0) nv kv).all Value.oneCell'=true:=by rw[hdv,hnv,hkv];exact TN.one
   have hkl:=hts t (A28 ht)
   obtain⟨f1,f2,f3⟩:=AKy fr he
   rw[AIq]
   refine AW w (show (⟨[nsv]⟩:Array Value)[0]? = some nsv from rfl) ?_
   refine (d.addR.addR:RdV 18 nsv ts.length ns _).agg w hil ?_
   rw[q1]
   refine Ah w Ko rfl fun b7 h w=>?_
   refine AL w ⟨t.cells dv (.slice none 0 0) nv kv⟩ (Ar (by rw[A31];exact TN.len)) (by show (List.toArray _).size=18;rw[A31];exact TN.len) (by rw[A31];decide) hone fun h w=>?_
   refine AW w (show (⟨[fv]⟩:Array Value)[0]? = some fv from rfl) ?_
   rw[AIq]
   refine AW w (show (⟨[ov]⟩:Array Value)[0]? = some ov from rfl) ?_
   obtain⟨⟨oa,oc,hov⟩,_⟩:=ao.len
   rw[hov,Aw]
   have k1:∀ B7 RF A X:Res,B7+((RF+A)+X)=RF+((A+B7)+X):=by intros;ac_rfl
   refine DS (u:=.int .i64 (AI3 F:Nat)) a (w.cast (k1 _ _ _ _)) hil rfl rfl fun rF h a w=>?_
   have hset:(AJA F).set (ix c) (.int .i64 (AI3 F:Nat))=AJA (F.set (ix c) (AI3 F:Nat)):=by unfold AJA;rw[B22]
   rw[hset] at a
   rw[AIq]
   refine AW w (show (⟨[ov]⟩:Array Value)[0]? = some ov from rfl) ?_
   refine Cj w TN.len ?_
   have k2:∀ RF B4 B1 B3 RO B6 B7 X:Res,RF+((B4+(B1+(B3+(RO+B6))))+B7+X)=RO+((RF+(B4+(B1+(B3+B6))))+B7+X):=by intros;ac_rfl
   have w:=w.cast (k2 _ _ _ _ _ _ _ _)
   refine CW ao w Ko (by show (List.toArray _).size=18;rfl) TN.len (by omega) (by omega) hone fun b9 h w=>?_
   refine B0 ao w Ko (by show (List.toArray _).size=18;rfl) TN.len hone (by omega) (by omega) fun ov rO h ao w=>?_
   rw[←f2] at ao
   rw[AIq]
   refine AL w ⟨[ov]⟩ (by obtain⟨⟨oa,oc,hov⟩,_⟩:=ao.len;rw[hov];rfl) (by obtain⟨⟨oa,oc,hov⟩,_⟩:=ao.len;rw[hov];rfl) (by simp) (by obtain⟨⟨oa,oc,hov⟩,_⟩:=ao.len;rw[hov];rfl) fun h w=>?_
   refine Dg w HL fun u8 r8 h a8 w=>?_
   rw[AIq]
   refine AW w (AJN TN.g17) ?_
   rw[hkv,Aw,←hkv]
   have k3:∀ R8 RO RF B4 B1 B3 B6 B7 Y X:Res,R8+(RO+((RF+(B4+(B1+(B3+B6))))+B7+(Y+X)))=(RF+(B4+(B1+(B3+(RO+B6)))))+(Y+(R8+(B7+X))):=by intros;ac_rfl
   have iv1:AJ2 its ix (c::S) (F.set (ix c) (AI3 F:Nat)):=fun c' hc' hns hv e he=>by
    rcases AKY hv with h1|h1
    ·exact f3 _ (.inl (iv c' hc' (fun hs=>hns (A16 _ hs)) h1 e he))
    ·have:=tx.inj c' hc' c hc h1
     subst this
     exact absurd (A13 ..) hns
   unfold AKd
   refine DE (fun mm u0 u1 h'=>∃ i F' vs r8,mm+i=t.ks.length∧u1=.int .i64 (i:Nat)∧Vec 3 1 u0 i vs r8∧vs.all Value.oneCell'=true∧WkS b1 b3 b4 b6 nsv fv ts.length (r8+(pts b7 (.cells ⟨t.cells dv (.slice none 0 0) nv kv⟩ 63 (0,0))+x)) F' h'∧AJ2 its ix (c::S) F'∧(∀ a,Vis (F.set (ix c) (AI3 F:Nat)) a→Vis F' a)∧(∀ j e,j<i→t.ks[j]? = some e→Vis F' e.2)) t.ks.length
    ⟨0,_,[],r8,rfl,rfl,a8,rfl,⟨by rw[A89];exact hFl,f1,ov,_,rF,rO,y,a,ao,w.cast (k3 _ _ _ _ _ _ _ _ _ _)⟩,iv1,fun _ v=>v,fun j e hj=>by omega⟩ ?_
   rintro rec mm u0 u1 h' ⟨i,F',vs,r8,hi,rfl,a8,hvs,ws,iv',mo,kd⟩ hrec
   unfold AKB Ucm Uil Uld Ufl
   rw[AT]
   refine AX (fun hc2=>?_) (fun hc2=>?_)
   ·have hik:i<t.ks.length:=by omega
    obtain⟨e,he2⟩:∃ e,t.ks[i]? = some e:=⟨_,A00 hik⟩
    obtain⟨kn,hk1,hk2⟩:=nt.sub e (A28 he2)
    obtain⟨hk3,hk4⟩:=ALC hio hk1
    have ws1:=ws
    obtain⟨hFl',fr',ov',os',rF',rO',y',a',ao',w'⟩:=ws
    refine (q4.addR.addR.addR.addR:RdV 1 kv t.ks.length (ints (t.ks.map (·.2))) _).get w' (SD (n:=e.2) (by rw[A21,he2];rfl)) ?_
    refine AW w' (show (⟨[wkV b1 b3 b4 b6]⟩:Array Value)[0]? = some (wkV b1 b3 b4 b6) from rfl) ?_
    refine IF (l:=[.int .i64 (e.2:Nat),Pt b4,Pt b1,Pt b3,Pt b6]) rfl (by kernel_rfl) ?_
    rw[hk2]
    refine ih kn (by have:=hk4;omega) hk3 _ (c::S) F' h' _ d.addR.addR tv.mono.mono iv' ws1 fun F2 h2 j ws2 iv2 mo2 vs2=>?_
    obtain⟨hFl2,fr2,ov2,os2,rF2,rO2,y2,a2,ao2,w2⟩:=ws2
    refine EY a8 (w2.cast (Kq0 _ _ _ _)) HL rfl rfl rfl (by omega) (by omega) fun u8 r8 h a8 w=>?_
    rw[BN (n:=1),Ci (by omega)]
    refine hrec (mm-1) _ _ _ ⟨i+1,F2,_,r8,by omega,rfl,a8,by rw[List.all_append,hvs];rfl,⟨hFl2,fr2,ov2,os2,rF2,rO2,y2,a2,ao2,w.cast (Kq0 _ _ _ _).symm⟩,iv2,fun a v=>mo2 a (mo a v),fun j' e' hj he'=>?_⟩ (by omega)
    by_cases hji:j'<i
    ·exact mo2 _ (kd j' e' hji he')
    ·have:j'=i:=by omega
     subst this
     rw[he2,A26] at he'
     subst he'
     rw[hk2];exact vs2
   ·have:i=t.ks.length:=by omega
    subst this
    obtain⟨hFl',fr',ov',os',rF',rO',y',a',ao',w'⟩:=ws
    have hvc:Vis F' (ix c):=mo _ (f3 _ (.inr rfl))
    obtain⟨n,hn1,hn2⟩:=id hvc
    have hnb:n<(AI3 F':Nat):=by
     rcases fr' n (A28 hn1) with h1|h1
     ·omega
     ·exact h1.2
    obtain⟨p,rfl⟩:∃ p:Nat,n=(p:Int):=⟨n.toNat,by omega⟩
    have iv'':AJ2 its ix S F':=fun c' hc' hns hv e hes=>by
     by_cases hcc:c'=c
     ·subst hcc
      cases hd:dirB its c' with
      | false=>
       rcases Co.1 hes with⟨g1,_⟩|⟨j,it,g1,g2,g3⟩
       ·rw[g1] at hd
        rw[Aj.2 (.inl rfl)] at hd;cases hd
       ·have hpj:parOf its (12+j)=c':=by
         have:=DT hio hes
         rw[g3] at this
         exact this.2.1
        have hj:=(A02.1 g1).1
        have:=(JY hio (BE.2 (.inr ⟨by omega,by omega⟩)) (by omega:12+j≠2)).1
        rw[hpj,hd] at this;cases this
      | true=>
       obtain⟨g1,g2,g3⟩:=nt.dir hd
       have g4:=g3 e hes
       obtain⟨j,e',hj,h5,h6⟩:∃ j e',t.ks[j]? = some e'∧e'.2=ix e.2∧j<t.ks.length:=by
        unfold kidL at g4
        split at g4
        ·rename_i e' heq
         split at g4
         ·exact⟨_,e',heq,A14 g4,(A02.1 heq).1⟩
         ·cases g4
        ·cases g4
       rw[←h5]
       exact kd j e' h6 hj
     ·exact iv' c' hc' (fun hs=>by
       rcases A32.1 hs with h|h
       ·exact hcc h
       ·exact hns h) hv e hes
    rw[AIq]
    refine AW w' (show (⟨[ov']⟩:Array Value)[0]? = some ov' from rfl) ?_
    refine AW w' (show (⟨[fv]⟩:Array Value)[0]? = some fv from rfl) ?_
    refine (a'.rdv.addL.addL:RdV 1 fv ts.length (AJA F') _).get w' (AJI hn1) ?_
    have k5:∀ RF B4 B1 B3 RO B6 Z:Res,(RF+(B4+(B1+(B3+(RO+B6)))))+Z=RO+((RF+(B4+(B1+(B3+B6))))+Z):=by intros;ac_rfl
    obtain⟨⟨xa,xc,hu0⟩,_⟩:=a8.len
    refine AKH (u:=u0) ao' (w'.cast (k5 _ _ _ _ _ _ _)) (by omega) (by omega) (by rw[hu0];rfl) (by rw[hu0];rfl) fun os2 rO2 h ao2 w=>?_
    refine AW w (show (⟨[fv]⟩:Array Value)[0]? = some fv from rfl) ?_
    refine (a'.rdv.addL.addL.addR:RdV 1 fv ts.length (AJA F') _).get w (AJI hn1) ?_
    have k6:∀ RF B4 B1 B3 RO B6 Y R8 B7 X:Res,RO+((RF+(B4+(B1+(B3+B6))))+(Y+(R8+(B7+X))))=(RF+(B4+(B1+(B3+(RO+B6)))))+((Y+(R8+B7))+X):=by intros;ac_rfl
    exact K F' h (p:Int) ⟨hFl',fr',ov',os2,rF',rO2,_,a',ao2,w.cast (k6 _ _ _ _ _ _ _ _ _ _)⟩ iv'' (fun a v=>mo a (f3 a (.inl v))) hvc
theorem s47 (hio:A7 its)(hn:its.length≤2000)(tx:ABG its ts ix)(hts:∀ t∈ts,t.ks.length<1000000000)(d:RdV 18 nsv ts.length ns x)(tv:TreeV x ns ts)(w:AN x h)(K:∀ ov y h,(∃ a c,ov=.slice a ts.length c)→AN (y+x) h→Q (.agg ⟨[ov]⟩) h):f47 (.agg ⟨[nsv]⟩) h Q:=by
 have htl:ts.length≤2002:=by rw[tx.len];omega
 obtain⟨⟨na,nc,hnv⟩,_⟩:=d.len
 unfold f47 Umk Ufl Uld
 refine BJ w fun b1 h w=>?_
 have w:AN (pts b1 (.cells ⟨[nsv]⟩ 40 (0,0))+x) h:=w
 refine Ah w Re rfl fun b2 h w=>?_
 refine Ah w Re rfl fun b3 h w=>?_
 rw[AIq]
 refine AW w (show (⟨[nsv]⟩:Array Value)[0]? = some nsv from rfl) ?_
 rw[hnv,Aw]
 refine C4 w HL rfl (A07 _) (by omega) (by omega) fun bf h w=>?_
 have zero61:AG TP 61=some (.slice none 0 0):=by kernel_rfl
 refine Ah w zero61 rfl fun b4 h w=>?_
 refine AL w ⟨[.slice (some ⟨bf,0,none⟩) ts.length ts.length]⟩ rfl rfl (by simp) rfl fun h w=>?_
 refine AW w (show (⟨[Value.slice (some ⟨bf,0,none⟩) ts.length ts.length]⟩:Array Value)[0]? = some (Value.slice (some ⟨bf,0,none⟩) ts.length ts.length) from rfl) ?_
 rw[Aw]
 have a:Vec 3 1 (.slice (some ⟨bf,0,none⟩) ts.length ts.length) ts.length (AJA (List.replicate ts.length 0)) (pts bf (.cells ⟨List.replicate ts.length (.int .i64 0)⟩ 3 (0,0))):=.own' (A07 _) (by simp) (by unfold AJA;simp)
 generalize hfv:Value.slice (some ⟨bf,0,none⟩) ts.length ts.length=fv at a w ⊢
 generalize pts bf (.cells ⟨List.replicate ts.length (.int .i64 0)⟩ 3 (0,0))=rF at a w
 have k1:∀ B4 RF B3 B2 B1 X:Res,B4+(RF+(B3+(B2+(B1+X))))=RF+(B4+(B3+(B2+(B1+X)))):=by intros;ac_rfl
 unfold AKa
 refine Ba (fun mm u h'=>∃ i F rF,mm+i=ts.length∧u=.int .i64 (i:Nat)∧F.length=ts.length∧Vec 3 1 fv ts.length (AJA F) rF∧(∀ j,j<i→F[j]? = some (-1))∧AN (rF+(pts b4 (.cells ⟨[fv]⟩ 61 (0,0))+(pts b3 (.cells ⟨[.slice none 0 0]⟩ 40 (0,0))+(pts b2 (.cells ⟨[.slice none 0 0]⟩ 40 (0,0))+(pts b1 (.cells ⟨[nsv]⟩ 40 (0,0))+x))))) h') ts.length
  ⟨0,List.replicate ts.length 0,rF,rfl,rfl,by simp,a,fun j hj=>by omega,w.cast (k1 _ _ _ _ _ _)⟩ ?_
 rintro rec mm u h' ⟨i,F,rF,hi,rfl,hFl,a,hF,w⟩ hrec
 unfold AJ8 Ucm Uld Umk Ufl
 rw[AT]
 refine AX (fun hc=>?_) (fun hc=>?_)
 ·refine AW w (show (⟨[fv]⟩:Array Value)[0]? = some fv from rfl) ?_
  refine DS (u:=.int .i64 (-1)) a w (by omega) rfl rfl fun rF h a w=>?_
  have hset:(AJA F).set i (.int .i64 (-1))=AJA (F.set i (-1)):=by unfold AJA;rw[B22]
  rw[hset] at a
  rw[BN (n:=1),Ci (by omega)]
  refine hrec (mm-1) _ _ ⟨i+1,F.set i (-1),rF,by omega,rfl,by rw[A89];exact hFl,a,fun j hj=>?_,w⟩ (by omega)
  by_cases hji:j=i
  ·subst hji;exact List.getElem?_set_self (by omega)
  ·rw[List.getElem?_set_ne (Ne.symm hji)];exact hF j (by omega)
 ·have hall:∀ e∈F,e = -1:=fun e he=>by
   obtain⟨j,hj,h1⟩:=B00 he
   have:=hF j (by omega)
   rw[A00 hj,h1,A26] at this
   exact this
  have hcnt:AI3 F=0:=AJe F fun e he=>by rw[hall e he];decide
  have zero180:AG TP 180=some .nilFunc:=by kernel_rfl
  refine Ah w zero180 rfl fun b6 h w=>?_
  refine AL w ⟨[wkV b1 b3 b4 b6]⟩ rfl rfl (by simp) rfl fun h w=>?_
  rw[AIq]
  refine AW w (show (⟨[nsv]⟩:Array Value)[0]? = some nsv from rfl) ?_
  have g1:∀ k:Value→Prop,AD .gtr (.int .i64 (ts.length:Nat)) (.int .i64 0) k=k (.bool true):=fun k=>by
   rw[Ao,A04 (by rw[tx.len];omega)]
  rw[hnv,Aw,g1,Ak]
  refine AW w (show (⟨[wkV b1 b3 b4 b6]⟩:Array Value)[0]? = some (wkV b1 b3 b4 b6) from rfl) ?_
  refine IF (l:=[.int .i64 (ix 2:Nat),Pt b4,Pt b1,Pt b3,Pt b6]) (by rw[tx.root];rfl) (by kernel_rfl) ?_
  have k2:∀ B6 RF B4 B3 B2 B1 X:Res,B6+(RF+(B4+(B3+(B2+(B1+X)))))=(RF+(B4+(B1+(B3+(0+B6)))))+(0+(B2+X)):=by intros;rw[Res.zero_add,Res.zero_add];ac_rfl
  refine s89 hio hn tx hts (10+its.length) 2 (by omega) (BE.2 (.inl rfl)) (pts b2 (.cells ⟨[.slice none 0 0]⟩ 40 (0,0))+x) [] F h _ d.addR tv.mono (fun c hc _ hv=>?_) ⟨hFl,fun e he=>.inl (hall e he),.slice none 0 0,[],rF,0,0,a,by rw[hcnt];exact .nil,w.cast (k2 _ _ _ _ _ _ _)⟩ fun F' h' j ws iv mo hv=>?_
  ·obtain⟨e,h1,h2⟩:=hv
   have:=hall e (A28 h1)
   omega
  ·obtain⟨hFl',fr',ov',os',rF',rO',y',a',ao',w'⟩:=ws
   have hc':AI3 F'=ts.length:=by
    rw[AJw F' fun e he=>?_,hFl']
    obtain⟨n,hn1,h1⟩:=B00 he
    obtain⟨c,h2,h3⟩:=tx.sur n (by omega)
    obtain⟨e',h4,h5⟩:=AKQ hio iv hv c h2
    rw[h3,A00 hn1,h1,A26] at h4
    rw[h4];exact h5
   rw[hc'] at ao'
   have hov:=ao'.len.1
   refine Cj w' rfl ?_
   refine AL w' ⟨[ov']⟩ (by obtain⟨a,c,e⟩:=hov;rw[e];rfl) (by obtain⟨a,c,e⟩:=hov;rw[e];rfl) (by simp) (by obtain⟨a,c,e⟩:=hov;rw[e];rfl) fun h w=>?_
   refine Cj w rfl ?_
   exact K ov' _ h hov (w.cast (Kq4 _ _ _ _))
end
end
section
variable {h:H} {k:Value→Prop} {kt Q:Kt} {x y z r:Res}
attribute [local irreducible] TN.cells XN.cells VS.cells PIt.cells Op1.cells
attribute [local irreducible] AK Az AQ BB Ae AY AH AM
section
variable {v nv nsv dv:Value} {vs ns:List Value} {l:List PIt} {ps:List Bs} {ts:List TN} {ix:Nat→Nat} {inl:Bool} {p:PIt} {t:TN} {i b3 b8 b11 b12:Nat} {rec1:R1} {x1 x2 x15 x16:Value}
theorem AK4 {dt nv2 kv2:Value}{pa:Bs}(hdv:RdX x dv p.data)(q2:RdX x dt t.data)(hm:t.X.mode=umL (ppL p.perm p.dir))(hd:t.data=if p.dir then [] else p.data)(hi:i<1000)
  (w:AN (pts b11 (.cells ⟨t.cells dt (.slice none 0 0) nv2 kv2⟩ 63 (0,0))+(pts b12 (.cells ⟨AI2 p pa (if p.dir then .slice none 0 0 else dv)⟩ 155 (0,0))+x)) h)
  (K:∀ y h,AN (y+x) h→rec1 (.int .i64 (i+1:Nat)) h):AJF Q rec1 x1 x2 (Pt b3) (Pt b11) (Pt b12) x15 x16 (.int .i64 (i:Nat)) h:=by
 have n1:∀ k:Value→Prop,AD .neq (.int .u16 (t.X.mode:Nat)) (.int .u16 (umL (ppL p.perm p.dir):Nat)) k=k (.bool false):=fun k=>by rw[hm,A3];simp
 have n3:∀ k:Value→Prop,AD .gtr (.int .i64 ((0:Nat):Int)) (.int .i64 0) k=k (.bool false):=fun k=>by rw[Ao];rfl
 have n2:∀ k:Value→Prop,AD .neq (str t.data) (str (if p.dir then [] else p.data)) k=k (.bool false):=fun k=>by rw[hd,Fq];simp
 have rd:RdX x (if p.dir then .slice none 0 0 else dv) (if p.dir then [] else p.data):=by
  split
  ·exact .inl ⟨none,0,rfl,rfl⟩
  ·exact hdv
 unfold AJF Uld Ufl Ucl Ukp Ucf Ucm
 rw[AIq]
 refine AW w (AJN TN.g0) ?_
 rw[AIq]
 refine AW w (show (⟨AI2 p pa (if p.dir then .slice none 0 0 else dv)⟩:Array Value)[1]? = some (.int .i64 (ppL p.perm p.dir:Nat)) from rfl) ?_
 refine AKE (s72 AKL w fun y2 h w=>?_)
 refine And.intro (AW w (AJN TN.g0) rfl) ?_
 rw[n1,Cr,AIq]
 refine AW w (AJN TN.g13) ?_
 refine q2.addR.addR.addR.str w ?_
 rw[AIq]
 refine AW w (show (⟨AI2 p pa (if p.dir then .slice none 0 0 else dv)⟩:Array Value)[3]? = some (if p.dir then .slice none 0 0 else dv) from rfl) ?_
 refine rd.addR.addR.addR.str w ?_
 rw[n2,Cr,AIq]
 refine AW w (AJN TN.g15) ?_
 rw[Aw,n3,AU,BN (n:=1),Ci (by omega)]
 exact K _ h (w.cast (Kq4 _ _ _ _))
theorem RdV.aggK {sz n i:Nat}{kk:IntKind}{v:Value}{vs:List Value}{F:Value→Value→Prop}(d:RdV sz v n vs x)(w:AN x h)(hi:i<n)(K:∀ a,(∀ (y:Res) (h:H),AN (y+x) h→AB true sz a h fun u=>u=.agg ⟨(vs.drop (i*sz)).take sz⟩)→F a (.agg ⟨(vs.drop (i*sz)).take sz⟩)):AI (.slice sz) v (.int kk (i:Int)) fun a=>AB true sz a h fun u=>F a u:=by
 have d0:=d
 rcases d with⟨a',c,h1,h2,h3⟩|⟨b,o,c,all,T,fz,y,h1,h2,h3,h4,h5⟩
 ·omega
 ·have g:∀ (y:Res) (h:H),AN (y+x) h→AB true sz (.pointer (some ⟨b,o+i*sz,none⟩)) h fun u=>u=.agg ⟨(vs.drop (i*sz)).take sz⟩:=fun y h w=>by
   have:=(d0.addR:RdV sz v n vs (y+x)).agg (kk:=.i64) (k:=fun u=>u=.agg ⟨(vs.drop (i*sz)).take sz⟩) w hi rfl
   rw[h1,PQ hi] at this
   exact this
  have g0:=g 0 h (w.cast (Res.zero_add _).symm)
  rw[h1,PQ hi]
  obtain⟨p,u,e1,e2,rfl⟩:=g0
  exact⟨p,_,e1,e2,K _ g⟩
theorem RdV.getK {n i:Nat}{kk:IntKind}{v u:Value}{vs:List Value}{F:Value→Value→Prop}(d:RdV 1 v n vs x)(w:AN x h)(hu:vs[i]? = some u)(K:∀ a,(∀ (y:Res) (h:H),AN (y+x) h→AB false 1 a h fun v=>v=u)→F a u):AI (.slice 1) v (.int kk (i:Int)) fun a=>AB false 1 a h fun u=>F a u:=by
 have d0:=d
 have hl:=d.len.2
 have hi:i<vs.length:=(A02.1 hu).1
 rcases d with⟨a',c,h1,h2,h3⟩|⟨b,o,c,all,T,fz,y,h1,h2,h3,h4,h5⟩
 ·omega
 ·have g:∀ (y:Res) (h:H),AN (y+x) h→AB false 1 (.pointer (some ⟨b,o+i,none⟩)) h fun v=>v=u:=fun y h w=>by
   have:=(d0.addR:RdV 1 v n vs (y+x)).get (kk:=.i64) (k:=fun v=>v=u) w hu rfl
   rw[h1,Cg (by omega)] at this
   exact this
  have g0:=g 0 h (w.cast (Res.zero_add _).symm)
  rw[h1,Cg (by omega)]
  obtain⟨p,u',e1,e2,rfl⟩:=g0
  exact⟨p,_,e1,e2,K _ g⟩
theorem ALP {x37 x42:Value}{pa:Bs}{dt nv2 kv2:Value}(hdt:∃ a n c,dt=.slice a n c)(hnv:∃ a n c,nv2=.slice a n c)(hkv:∃ a n c,kv2=.slice a n c)(hdv:∃ a c,dv=.slice a p.data.length c)(kA:∀ (y:Res) (h:H),AN (y+x) h→AB false 1 (Pt b3) h fun v=>v=nsv)
  (kB:∀ (y:Res) (h:H),AN (y+x) h→AB true 18 x37 h fun v=>v=.agg ⟨t.cells dt (.slice none 0 0) nv2 kv2⟩) (kC:∀ (y:Res) (h:H),AN (y+x) h→AB true 5 (Pt b8) h fun v=>v=.agg ⟨p.cells dv⟩) (kD:∀ (y:Res) (h:H),AN (y+x) h→AB false 1 x42 h fun v=>v=str pa)
  (w:AN x h) (K:∀ b11 b12 y h,AN (pts b11 (.cells ⟨t.cells dt (.slice none 0 0) nv2 kv2⟩ 63 (0,0))+(pts b12 (.cells ⟨AI2 p pa (if p.dir then .slice none 0 0 else dv)⟩ 155 (0,0))+(y+x))) h→AJF Q rec1 x1 x2 (Pt b3) (Pt b11) (Pt b12) x15 x16 (.int .i64 (i:Nat)) h) :
  (Call TP 74 [.agg ⟨p.cells dv⟩,str pa] h fun x44 h=>((AB false 1 (Pt b3) h fun v=>v=nsv)∧(AB true 18 x37 h fun v=>v=.agg ⟨t.cells dt (.slice none 0 0) nv2 kv2⟩)∧((AQ (AG TP 63) 63 h fun x11 h=>((AB false 1 (Pt b3) h fun v=>v=nsv)∧(AB true 18 x37 h fun v=>v=.agg ⟨t.cells dt (.slice none 0 0) nv2 kv2⟩)∧AJW Q rec1 x1 x2 (Pt b3) x11 x15 x16 (.int .i64 (i:Nat)) (Pt b3) nsv x37 (.agg ⟨t.cells dt (.slice none 0 0) nv2 kv2⟩) x44 h))
   ∧ (AQ (AG TP 155) 155 h fun x12 h=>((AB false 1 (Pt b3) h fun v=>v=nsv)∧(AB true 18 x37 h fun v=>v=.agg ⟨t.cells dt (.slice none 0 0) nv2 kv2⟩)∧AJT Q rec1 x1 x2 (Pt b3) x12 x15 x16 (.int .i64 (i:Nat)) (Pt b3) nsv x37 (.agg ⟨t.cells dt (.slice none 0 0) nv2 kv2⟩) x44 h)))))
  ∧ ((AQ (AG TP 63) 63 h fun x11 h=>((AB false 1 (Pt b3) h fun v=>v=nsv)∧(AB true 18 x37 h fun v=>v=.agg ⟨t.cells dt (.slice none 0 0) nv2 kv2⟩)∧(AB true 5 (Pt b8) h fun v=>v=.agg ⟨p.cells dv⟩)∧(AB false 1 x42 h fun v=>v=str pa)∧((Call TP 74 [.agg ⟨p.cells dv⟩,str pa] h fun x44 h=>((AB false 1 (Pt b3) h fun v=>v=nsv)∧(AB true 18 x37 h fun v=>v=.agg ⟨t.cells dt (.slice none 0 0) nv2 kv2⟩)∧AJW Q rec1 x1 x2 (Pt b3) x11 x15 x16 (.int .i64 (i:Nat)) (Pt b3) nsv x37 (.agg ⟨t.cells dt (.slice none 0 0) nv2 kv2⟩) x44 h))
   ∧ (AQ (AG TP 155) 155 h fun x12 h=>((AB false 1 (Pt b3) h fun v=>v=nsv)∧(AB true 18 x37 h fun v=>v=.agg ⟨t.cells dt (.slice none 0 0) nv2 kv2⟩)∧(AB true 5 (Pt b8) h fun v=>v=.agg ⟨p.cells dv⟩)∧(AB false 1 x42 h fun v=>v=str pa)∧AJX Q rec1 x1 x2 (Pt b3) x11 x12 x15 x16 (.int .i64 (i:Nat)) (Pt b3) nsv x37 (.agg ⟨t.cells dt (.slice none 0 0) nv2 kv2⟩) (.agg ⟨p.cells dv⟩) (str pa) h)))))
  ∧ (AQ (AG TP 155) 155 h fun x12 h=>((AB false 1 (Pt b3) h fun v=>v=nsv)∧(AB true 18 x37 h fun v=>v=.agg ⟨t.cells dt (.slice none 0 0) nv2 kv2⟩)∧(AB true 5 (Pt b8) h fun v=>v=.agg ⟨p.cells dv⟩)∧(AB false 1 x42 h fun v=>v=str pa)∧((Call TP 74 [.agg ⟨p.cells dv⟩,str pa] h fun x44 h=>((AB false 1 (Pt b3) h fun v=>v=nsv)∧(AB true 18 x37 h fun v=>v=.agg ⟨t.cells dt (.slice none 0 0) nv2 kv2⟩)∧AJT Q rec1 x1 x2 (Pt b3) x12 x15 x16 (.int .i64 (i:Nat)) (Pt b3) nsv x37 (.agg ⟨t.cells dt (.slice none 0 0) nv2 kv2⟩) x44 h))
   ∧ (AQ (AG TP 63) 63 h fun x11 h=>((AB false 1 (Pt b3) h fun v=>v=nsv)∧(AB true 18 x37 h fun v=>v=.agg ⟨t.cells dt (.slice none 0 0) nv2 kv2⟩)∧(AB true 5 (Pt b8) h fun v=>v=.agg ⟨p.cells dv⟩)∧(AB false 1 x42 h fun v=>v=str pa)∧AJX Q rec1 x1 x2 (Pt b3) x11 x12 x15 x16 (.int .i64 (i:Nat)) (Pt b3) nsv x37 (.agg ⟨t.cells dt (.slice none 0 0) nv2 kv2⟩) (.agg ⟨p.cells dv⟩) (str pa) h)))))):=by
 obtain⟨a1,n1,c1,rfl⟩:=hdt
 obtain⟨a2,n2,c2,rfl⟩:=hnv
 obtain⟨a3,n3,c3,rfl⟩:=hkv
 have hone:(AI2 p pa (if p.dir then .slice none 0 0 else dv)).all Value.oneCell'=true:=by
  obtain⟨a,c,rfl⟩:=hdv
  cases p.dir<;>rfl
 have l1:∀ A B X:Res,A+(B+X)=(A+B)+X:=fun A B X=>(Res.assoc _ _ _).symm
 have fin:∀ (b11 b12:Nat) (z11 z12:List Value) (y:Res) (h:H),z11.length=18→z12.length=5→AN (pts b11 (.cells ⟨z11⟩ 63 (0,0))+(pts b12 (.cells ⟨z12⟩ 155 (0,0))+(y+x))) h →
   AJ 18 (Pt b11) (.agg ⟨t.cells (.slice a1 n1 c1) (.slice none 0 0) (.slice a2 n2 c2) (.slice a3 n3 c3)⟩) h fun h=>AJ 5 (Pt b12) (.agg ⟨AI2 p pa (if p.dir then .slice none 0 0 else dv)⟩) h fun h=>AJF Q rec1 x1 x2 (Pt b3) (Pt b11) (Pt b12) x15 x16 (.int .i64 (i:Nat)) h:=fun b11 b12 z11 z12 y h hz1 hz2 w=>by
  refine AL w ⟨t.cells (.slice a1 n1 c1) (.slice none 0 0) (.slice a2 n2 c2) (.slice a3 n3 c3)⟩ (Ar (by rw[A31,hz1];exact TN.len)) (by show (List.toArray _).size=18;rw[A31];exact TN.len) (by rw[A31,hz1];omega) TN.one fun h w=>?_
  refine AL w ⟨AI2 p pa (if p.dir then .slice none 0 0 else dv)⟩ (Ar (by rw[A31,hz2];rfl)) rfl (by rw[A31,hz2];omega) hone fun h w=>?_
  exact K b11 b12 y h w
 have t3:∀ (b11:Nat) (z11:List Value) (y:Res) (h:H),z11.length=18→AN (pts b11 (.cells ⟨z11⟩ 63 (0,0))+(y+x)) h→AJW Q rec1 x1 x2 (Pt b3) (Pt b11) x15 x16 (.int .i64 (i:Nat)) (Pt b3) nsv x37 (.agg ⟨t.cells (.slice a1 n1 c1) (.slice none 0 0) (.slice a2 n2 c2) (.slice a3 n3 c3)⟩) (.agg ⟨AI2 p pa (if p.dir then .slice none 0 0 else dv)⟩) h:=fun b11 z11 y h hz w=>by
  unfold AJW Umk Ukp
  refine Ah w AI4 rfl fun b12 h w=>?_
  have w2:=w.cast (show _=(pts b12 _+(pts b11 _+y))+x by rw[l1,l1,←l1 _ _ y])
  exact⟨kA _ h w2,kB _ h w2,fin b11 b12 _ _ y h hz rfl (w.cast (Res.left_comm _ _ _))⟩
 have t2:∀ (b12:Nat) (z12:List Value) (y:Res) (h:H),z12.length=5→AN (pts b12 (.cells ⟨z12⟩ 155 (0,0))+(y+x)) h→AJT Q rec1 x1 x2 (Pt b3) (Pt b12) x15 x16 (.int .i64 (i:Nat)) (Pt b3) nsv x37 (.agg ⟨t.cells (.slice a1 n1 c1) (.slice none 0 0) (.slice a2 n2 c2) (.slice a3 n3 c3)⟩) (.agg ⟨AI2 p pa (if p.dir then .slice none 0 0 else dv)⟩) h:=fun b12 z12 y h hz w=>by
  unfold AJT Umk Ukp
  refine Ah w Ko rfl fun b11 h w=>?_
  have w2:=w.cast (show _=(pts b11 _+(pts b12 _+y))+x by rw[l1,l1,←l1 _ _ y])
  exact⟨kA _ h w2,kB _ h w2,fin b11 b12 _ _ y h rfl hz w⟩
 have t1:∀ (b11 b12:Nat) (z11 z12:List Value) (y:Res) (h:H),z11.length=18→z12.length=5→AN (pts b11 (.cells ⟨z11⟩ 63 (0,0))+(pts b12 (.cells ⟨z12⟩ 155 (0,0))+(y+x))) h→AJX Q rec1 x1 x2 (Pt b3) (Pt b11) (Pt b12) x15 x16 (.int .i64 (i:Nat)) (Pt b3) nsv x37 (.agg ⟨t.cells (.slice a1 n1 c1) (.slice none 0 0) (.slice a2 n2 c2) (.slice a3 n3 c3)⟩) (.agg ⟨p.cells dv⟩) (str pa) h:=fun b11 b12 z11 z12 y h h1 h2 w=>by
  unfold AJX Ucl Ukp
  refine AJb (s74 hdv w fun y2 h w=>?_)
  have e:∀ Y2 A B Y X:Res,Y2+(A+(B+(Y+X)))=A+(B+((Y2+Y)+X)):=by intros;ac_rfl
  have e2:∀ Y2 A B Y X:Res,Y2+(A+(B+(Y+X)))=(Y2+(A+(B+Y)))+X:=by intros;ac_rfl
  have w2:=w.cast (e2 _ _ _ _ _)
  exact⟨kA _ h w2,kB _ h w2,fin b11 b12 _ _ _ h h1 h2 (w.cast (e _ _ _ _ _))⟩
 have z0:∀ A X:Res,A+X=A+(0+X):=fun A X=>by rw[Res.zero_add]
 have e3:∀ A Y X:Res,Y+(A+X)=A+(Y+X):=by intros;ac_rfl
 have e4:∀ A B X:Res,A+(B+X)=B+(A+(0+X)):=by intros;rw[Res.zero_add];ac_rfl
 refine⟨?_,?_,?_⟩
 ·refine AJb (s74 hdv w fun y h w=>?_)
  refine⟨kA _ h w,kB _ h w,?_,?_⟩
  ·refine Ah w Ko rfl fun b11 h w=>?_
   have w2:=w.cast (l1 _ _ _)
   exact⟨kA _ h w2,kB _ h w2,t3 b11 _ y h rfl w⟩
  ·refine Ah w AI4 rfl fun b12 h w=>?_
   have w2:=w.cast (l1 _ _ _)
   exact⟨kA _ h w2,kB _ h w2,t2 b12 _ y h rfl w⟩
 ·refine Ah w Ko rfl fun b11 h w=>?_
  refine⟨kA _ h w,kB _ h w,kC _ h w,kD _ h w,?_,?_⟩
  ·refine AJb (s74 hdv w fun y h w=>?_)
   have w2:=w.cast (l1 _ _ _)
   exact⟨kA _ h w2,kB _ h w2,t3 b11 _ y h rfl (w.cast (e3 _ _ _))⟩
  ·refine Ah w AI4 rfl fun b12 h w=>?_
   have w2:=w.cast (l1 _ _ _)
   exact⟨kA _ h w2,kB _ h w2,kC _ h w2,kD _ h w2,t1 b11 b12 _ _ 0 h rfl rfl (w.cast (e4 _ _ _))⟩
 ·refine Ah w AI4 rfl fun b12 h w=>?_
  refine⟨kA _ h w,kB _ h w,kC _ h w,kD _ h w,?_,?_⟩
  ·refine AJb (s74 hdv w fun y h w=>?_)
   have w2:=w.cast (l1 _ _ _)
   exact⟨kA _ h w2,kB _ h w2,t2 b12 _ y h rfl (w.cast (e3 _ _ _))⟩
  ·refine Ah w Ko rfl fun b11 h w=>?_
   have w2:=w.cast (l1 _ _ _)
   exact⟨kA _ h w2,kB _ h w2,kC _ h w2,kD _ h w2,t1 b11 b12 _ _ 0 h rfl rfl (w.cast (by rw[Res.zero_add]))⟩
end
end
section
variable {h:H} {k:Value→Prop} {kt Q:Kt} {x y z r:Res}
attribute [local irreducible] TN.cells XN.cells VS.cells PIt.cells Op1.cells
attribute [local irreducible] AK Az AQ BB Ae AY AH AM
section
variable {v nv nsv:Value} {vs ns:List Value} {l:List PIt} {ps:List Bs} {ts:List TN} {ix:Nat→Nat} {inl:Bool}
theorem s36 (d:RdV 5 v l.length vs x)(pv:AI7 x vs l)(ok:AJE l ps)(dn:RdV 1 nv ps.length (strs ps) x)(d18:RdV 18 nsv ts.length ns x)(tv:TreeV x ns ts)(hts:∀ t∈ts,t.X.mode<65536∧t.ks.length<1000000000)(tx:ABG (AIz l ps) ts ix)(w:AN x h)
  (K:∀ y h,AN (y+x) h→Q (.bool true) h):f36 (.agg ⟨[nsv]⟩) v nv h Q:=by
 obtain⟨⟨va,vc,hv⟩,_⟩:=d.len
 have hlen:=ok.len
 have hpl:=ok.psl
 have hio:=AKF ok
 unfold f36
 refine BJ w fun b3 h w=>?_
 have w:AN (pts b3 (.cells ⟨[nsv]⟩ 40 (0,0))+x) h:=w
 rw[hv,Aw,←hv]
 unfold AKh
 refine Ba (fun mm u h'=>∃ i y,mm+i=l.length∧u=.int .i64 (i:Nat)∧AN (pts b3 (.cells ⟨[nsv]⟩ 40 (0,0))+(y+x)) h') l.length ⟨0,0,rfl,rfl,w.cast (by rw[Res.zero_add])⟩ ?_
 rintro rec mm u h' ⟨i,y,hi,rfl,w⟩ hrec
 unfold AKI Ucm Umk Uil Ucl Unt Uld Ukp
 rw[AT]
 refine AX (fun hc=>?_) (fun hc=>?_)
 ·have hil:i<l.length:=by omega
  obtain⟨p,hp⟩:∃ p,l[i]? = some p:=⟨_,A00 hil⟩
  obtain⟨dv,h1,h2⟩:=pv i p hp
  obtain⟨da,dc,hdv⟩:=h2.len
  have hpth:ps[i]? = some (ps.getD i []):=by rw[A10,A00 (by omega)];rfl
  have hpl2:(ps.getD i []).length≤3000:=by
   have e:=(ok.it i p hp).path
   rw[hpth,A26] at e
   rw[e];exact (ok.it i p hp).pl
  have hg:(AIz l ps)[i]? = some (AI1 l ps i p):=by rw[AI8,hp];rfl
  obtain⟨t,ht,nt⟩:=tx.node (12+i) (BE.2 (.inr ⟨by omega,by rw[AI9];omega⟩))
  obtain⟨m1,m2,m3⟩:=nt.it i _ rfl hg
  have m1':t.X.mode=umL (ppL p.perm p.dir):=m1.trans (AKK p.perm p.dir).2.2
  have m3':t.data=if p.dir then [] else p.data:=by
   rw[m3,AJn]
   show (if _ then (if p.dir then [] else p.data) else [])=_
   cases p.dir<;>rfl
  have hil2:=(A02.1 ht).1
  obtain⟨dt,nv2,kv2,q1,q2,q3,q4⟩:=tv.get ht
  refine (d.addR.addR:RdV 5 v l.length vs _).agg w hil ?_
  rw[h1]
  refine Ah w AJH rfl fun b8 h w=>?_
  refine AL w ⟨p.cells dv⟩ (Ar (by rw[A31,PIt.len];exact PIt.len)) (by show (p.cells dv).length=5;exact PIt.len) (by rw[A31,PIt.len];omega) (by rw[hdv];exact PIt.one) fun h w=>?_
  refine Cj w rfl ?_
  refine (dn.addR.addR.addR:RdV 1 nv ps.length (strs ps) _).get w (NX hpth) ?_
  refine AKt (s29 (by omega) w fun ev r y2 h ae w=>?_)
  refine And.intro (Cj w rfl rfl) ?_
  have hfind:=AKN ok tx i p hp
  refine ACJ (s15 (x:=r+(y2+(pts b8 (.cells ⟨p.cells dv⟩ 149 (0,0))+(pts b3 (.cells ⟨[nsv]⟩ 40 (0,0))+(y+x))))) d18.addR.addR.addR.addR.addR tv.mono.mono.mono.mono.mono hts ae.rdv.addL ?_ hfind w fun y3 h w=>?_)
  ·have:∀ (l:Bs) (cur:Bs),(elF l cur).length≤l.length+1:=by
    intro l
    induction l with
    | nil=>intro cur;rw[elF];split<;>simp
    | cons b l ih=>
     intro cur
     rw[elF]
     split
     ·have:=ih []
      rw[A01,A19]
      split<;>simp<;>omega
     ·have:=ih (cur++[b])
      rw[A19];omega
   have:=this (ps.getD i []) []
   show (elF (ps.getD i []) []).length<_
   omega
  have k1:∀ Y3 R Y2 B8 B3 Y X:Res,Y3+(R+(Y2+(B8+(B3+(Y+X)))))=B8+(B3+((Y3+(R+(Y2+Y)))+X)):=by intros;ac_rfl
  have w:=w.cast (k1 _ _ _ _ _ _ _)
  rw[DA,DH,F1,A91,AU,AIq]
  refine AW w (show (⟨[nsv]⟩:Array Value)[0]? = some nsv from rfl) ?_
  refine (d18.addR.addR.addR:RdV 18 nsv ts.length ns _).aggK w hil2 fun x37 kB=>?_
  rw[q1] at kB ⊢
  refine Cj w PIt.len ?_
  refine (dn.addR.addR.addR:RdV 1 nv ps.length (strs ps) _).getK w (NX hpth) fun x42 kD=>?_
  obtain⟨a1,c1,e1⟩:=q2.len
  obtain⟨⟨a2,c2,e2⟩,_⟩:=q3.len
  obtain⟨⟨a3,c3,e3⟩,_⟩:=q4.len
  refine ALP ⟨_,_,_,e1⟩ ⟨_,_,_,e2⟩ ⟨_,_,_,e3⟩ ⟨da,dc,hdv⟩ (fun y h w=>AW w rfl rfl) kB (fun y h w=>Cj w PIt.len rfl) kD w fun b11 b12 y4 h w=>?_
  refine AK4 h2.addR.addR.addR.addR q2.addR.addR.addR.addR m1' m3' (by omega) w fun y5 h w=>?_
  have k2:∀ Y5 Y4 B8 B3 Y X:Res,Y5+(Y4+(B8+(B3+(Y+X))))=B3+((Y5+(Y4+(B8+Y)))+X):=by intros;ac_rfl
  exact hrec (mm-1) _ _ ⟨i+1,_,by omega,rfl,w.cast (k2 _ _ _ _ _ _)⟩ (by omega)
 ·have:i=l.length:=by omega
  subst this
  obtain⟨t0,ht0,n0⟩:=tx.node 2 (BE.2 (.inl rfl))
  rw[tx.root] at ht0
  obtain⟨g1,g2,g3⟩:=n0.dir (Aj.2 (.inl rfl))
  have hk0:=g3 (lostN,11) (Co.2 (.inl ⟨rfl,rfl⟩))
  have fi1:FindP ts 0 [lostN] (ix 11):=.cons ht0 hk0 g1 .nil
  refine Cj w rfl ?_
  refine G5 w Ho rfl rfl rfl fun b9 h w=>?_
  have Tf:RdV 1 (.slice (some ⟨b9,0,none⟩) 1 1) [lostN].length (strs [lostN]) (pts b9 (.cells ⟨[str lostN]⟩ 9 (0,0))):=.inr ⟨b9,0,1,[str lostN],9,(0,0),0,rfl,(Res.add_zero _).symm,by show 0+1*1≤1;omega,rfl,A07 _⟩
  have w:AN (pts b9 (.cells ⟨[str lostN]⟩ 9 (0,0))+(pts b3 (.cells ⟨[nsv]⟩ 40 (0,0))+(y+x))) h:=w
  refine ACJ (s15 (x:=pts b9 (.cells ⟨[str lostN]⟩ 9 (0,0))+(pts b3 (.cells ⟨[nsv]⟩ 40 (0,0))+(y+x))) d18.addR.addR.addR tv.mono.mono.mono hts Tf.addL (by show 1<_;omega) fi1 w fun y3 h w=>?_)
  rw[DA,DH,Cq]
  refine Cj w rfl ?_
  refine AKp (s47 (x:=y3+(pts b9 (.cells ⟨[str lostN]⟩ 9 (0,0))+(pts b3 (.cells ⟨[nsv]⟩ 40 (0,0))+(y+x)))) hio (by rw[AI9];omega) tx (fun t ht=>(hts t ht).2) d18.addR.addR.addR.addR tv.mono.mono.mono.mono w fun ov y4 h ho w=>?_)
  obtain⟨oa,oc,rfl⟩:=ho
  refine⟨⟨[.slice oa ts.length oc]⟩,.slice oa ts.length oc,rfl,rfl,?_⟩
  have e1:∀ k:Value→Prop,AD .eql (.int .i64 (ts.length:Nat)) (.int .i64 (l.length+2:Nat)) k=k (.bool true):=fun k=>by
   rw[Aa,tx.len,AI9];simp
  show Ab (.slice oa ts.length oc) _
  rw[Aw,hv,Aw,BN (n:=2),Ci (by omega),e1]
  exact K _ h (w.cast (ALD _ _ _ _ _ _))
theorem s8 (d:RdV 5 v l.length vs x)(pv:AI7 x vs l)(hn:l.length≤2000000000)(hb:∀ p∈l,p.nm.length≤1100000∧p.data.length≤2000000)(g:JX x)(w:AN x h)(K:∀ y h,AN (y+x) h→Q (.bool true) h):f8 v (.bool inl) h Q:=by
 unfold f8 Ucl Unt
 refine AKr (s33 d pv hn (fun p hp=>by have:=hb p hp;omega) w fun y0 h w=>?_)
 rw[F1,A91,AU]
 refine AKo (s34 d.addR (fun i p hp=>by obtain⟨dv,e1,e2⟩:=pv i p hp;exact⟨dv,e1,e2.addR⟩) hb w (fun y h w=>?_) fun ps nv r y h ok an w=>?_)
 ·rw[DA,DH,F1,B44,Ak]
  exact K _ h (w.cast (Res.assoc _ _ _).symm)
 ·have k1:∀ R Y Y0 X:Res,R+(Y+(Y0+X))=(R+(Y+Y0))+X:=by intros;ac_rfl
  have hio:=AKF ok
  have hlen:=ok.len
  have hpl:=ok.psl
  rw[DA,DH,F1,A91,AU]
  have pv2:AI7 (r+(y+(y0+x))) vs l:=pv.addR.addR.addR
  refine AKn (s35 d.addR.addR.addR pv2 ok an.rdv.addL w fun u l' ro y2 h a hl' hm hd w=>?_)
  have hsm:=AKS ok
  have st:∀ db,∃ SE S,Steps (l'.map (·.1)) (S2 [] inl EA db) SE∧He SE S∧S.db=db∧Xp (To (AIz l ps)) (BS S):=fun db=>by
   rw[hm]
   exact QD inl db hio AK5 (by rw[AI9];omega) (by omega)
  refine AEN (s13 (x:=ro+(y2+(r+(y+(y0+x))))) (l:=l') a.rdv.addL (by omega) (fun o ho=>(hd o ho).1.addR.addR) (fun o ho=>by have:=(hd o ho).2;omega) st g.addR.addR.addR.addR.addR w fun v' os cs zz h dv ov okv hP hnum hnn w=>?_)
  rw[DA,DH,Cq]
  refine ABt (AHp hio (by rw[AI9];omega) hP okv dv.addL ov.addL hnum w fun nsv nd ts ix y3 h tx d18 tv hts w=>?_)
  have kx:∀ Y3 V Z RO Y2 R Y Y0 X:Res,Y3+(V+(Z+(RO+(Y2+(R+(Y+(Y0+X)))))))=(Y3+(V+(Z+(RO+(Y2+(R+(Y+Y0)))))))+X:=by intros;ac_rfl
  refine AKm (s36 (x:=y3+(v'.res+(zz+(ro+(y2+(r+(y+(y0+x)))))))) d.addR.addR.addR.addR.addR.addR.addR.addR pv2.addR.addR.addR.addR.addR ok an.rdv.addL.addR.addR.addR.addR.addR d18.addL tv hts tx w fun y4 h w=>?_)
  exact K _ h (w.cast (by rw[kx,←Res.assoc]))
end
end
section
open Go Go.ChangeShapes Go.WideShapes Go.RowKit
theorem AHb:ownKnob Tryz.prog.godebug=none:=by kernel_rfl
theorem SF:laidOutB Tryz.prog=true:=by kernel_rfl
section
variable {K:Type} {enc:TypeId×Value→K} {w:World} {base:Nat} {sp:Nat→Bool} {held:Bool} {fuel:Nat} {t e:TypeId} {v:Value} {d:DataW K} {p:List MemPlace}
theorem AJ3 {sz:Nat}(ht:TP.underlying t=some (.slice e))(he:TP.cellsOf e=sz)(hs0:0<sz)(h:DataW.trod enc TP w base sp held fuel t [v]=some (d,p)) :
  ∃ (vs:List Value) (ds:List (DataW K)),RdV sz v ds.length vs (allR w.heap)∧(∀ (i:Nat) (di:DataW K),ds[i]? = some di→∃ n q,DataW.trod enc TP w base sp held n e ((vs.drop (i*sz)).take sz)=some (di,q))∧Rows.uptoBulkAll ds≤Rows.uptoBulk d:=by
 rcases DataW.trod_slice ht h with⟨h1,h2⟩|⟨a,len,cap,elems,rest,n,_,h1,h2,_,hle,_,hlen,hel,_⟩
 ·simp only[List.cons.injEq,and_true] at h1
  exact⟨[],[],.inl ⟨none,0,h1,rfl,rfl⟩,fun i u hu=>by simp at hu,by show 0≤_;omega⟩
 ·simp only[List.cons.injEq,and_true] at h1
  simp only[B43] at h2
  obtain⟨h2,_⟩:=h2
  have hb:Rows.uptoBulkAll (elems.map (·.1))≤Rows.uptoBulk d:=by
   rw[h2];simp only[Rows.uptoBulk];omega
  have hcell:∀ i,i<len→∃ c1 y,elems[i]? = some y∧DataW.trod enc TP w base sp held n e c1=some y∧c1.length=sz∧∀ j,j<sz→w.cell? ((a.add (i*sz)).add j)=c1[j]?:=fun i hi=>by
   have hE:=hel i hi
   rw[he] at hE
   obtain⟨y,hy⟩:∃ y,elems[i]? = some y:=⟨_,A00 (by omega)⟩
   rw[hy] at hE
   simp only[Option.bind_eq_some_iff] at hE
   obtain⟨c1,hc1,hy1⟩:=hE
   obtain⟨_,g1,g2⟩:=World.cells?_some hc1
   exact⟨c1,y,hy,hy1,g1,g2⟩
  by_cases h0:len=0
  ·subst h0
   exact⟨[],[],.inl ⟨some a,cap,h1,rfl,rfl⟩,fun i u hu=>by simp at hu,by show 0≤_;omega⟩
  ·obtain⟨b,o,spt⟩:=a
   have hblk:spt=none∧∃ c T fz,w.heap[b]? = some (.cells c T fz):=by
    obtain⟨c1,y,_,_,g1,g2⟩:=hcell 0 (by omega)
    have hu:=g2 0 hs0
    have e0:((⟨b,o,spt⟩:Addr).add (0*sz)).add 0=⟨b,o,spt⟩:=by simp[Addr.add]
    rw[e0,A00 (by omega)] at hu
    unfold World.cell? at hu
    split at hu
    ·rename_i c T fz hb
     split at hu
     ·cases hu
     ·rename_i hs
      exact⟨by simpa using hs,c,T,fz,hb⟩
    ·cases hu
   obtain⟨rfl,c,T,fz,hb2⟩:=hblk
   have hget:∀ i,i<len→∃ c1 y,elems[i]? = some y∧DataW.trod enc TP w base sp held n e c1=some y∧c1.length=sz∧∀ j,j<sz→c[o+i*sz+j]? = c1[j]?:=fun i hi=>by
    obtain⟨c1,y,g0,g1,g2,g3⟩:=hcell i hi
    refine⟨c1,y,g0,g1,g2,fun j hj=>?_⟩
    have hu:=g3 j hj
    rw[Bm,Bm] at hu
    unfold World.cell? at hu
    simp only[hb2,A86,A45,if_false] at hu
    exact hu
   have hsz:o+len*sz≤c.toList.length:=by
    obtain⟨c1,y,_,_,g2,g3⟩:=hget (len-1) (by omega)
    have hu:=g3 (sz-1) (by omega)
    rw[A00 (by omega)] at hu
    have:=(A46.1 hu).1
    have e1:(len-1)*sz+sz=len*sz:=by
     have h:(len-1+1)*sz=len*sz:=by rw[Nat.sub_add_cancel (by omega)]
     rw[A93,B34] at h
     exact h
    rw[B21];omega
   obtain⟨y,hy⟩:=U8 hb2
   have hdl:(elems.map (·.1)).length=len:=by rw[A25,hlen]
   refine⟨(c.toList.drop o).take (len*sz),elems.map (·.1),.inr ⟨b,o,cap,c.toList,T,fz,y,by rw[hdl];exact h1,by rw[hy],by rw[hdl];exact hsz,by rw[hdl],by rw[hdl];exact hle⟩,fun i di hu=>?_,hb⟩
   have hi:i<len:=by have:=(A02.1 hu).1;omega
   obtain⟨c1,y',h3,h4,h5,h6⟩:=hget i hi
   rw[A21,h3] at hu
   simp only[A80,A26] at hu
   refine⟨n,y'.2,?_⟩
   have hc1:(((c.toList.drop o).take (len*sz)).drop (i*sz)).take sz=c1:=by
    have e1:(i+1)*sz≤len*sz:=A48 sz hi
    rw[A93,B34] at e1
    apply A60
    intro j
    by_cases hj:j<sz
    ·rw[A41,A03 hj,A53,A41,A03 (by omega),A53,←h6 j hj,←B62,B41]
    ·rw[A41,A05 hj,A40 (by omega)]
   rw[hc1,h4,←hu]
theorem AK9:∃ fs:Array Field,TP.underlying 149=some (.struct fs)∧fs.toList.map (fun f=>(f.type,f.offset,TP.cellsOf f.type))=[(3,0,1),(9,1,1),(4,2,1),(3,3,1),(30,4,1)]:=by
 have h:(match TP.underlying 149 with|some (.struct fs)=>fs.toList.map (fun f=>(f.type,f.offset,TP.cellsOf f.type))|_=>[])=[(3,0,1),(9,1,1),(4,2,1),(3,3,1),(30,4,1)]:=by kernel_rfl
 split at h
 ·rename_i fs hfs
  exact⟨fs,hfs,h⟩
 ·cases h
theorem ALH:TP.underlying 9=some .string:=by kernel_rfl
theorem AK6:TP.underlying 3=some (.int .i64):=by kernel_rfl
theorem AKi:TP.cellsOf 149=5:=by kernel_rfl
theorem AJ1 {cs:List Value}(h:DataW.trod enc TP w base sp held fuel 149 cs=some (d,p)):∃ (q:PIt) (dv:Value),cs=q.cells dv∧RdX (allR w.heap) dv q.data∧q.nm.length≤Rows.uptoBulk d∧q.data.length≤Rows.uptoBulk d:=by
 obtain⟨fs,hu,hfs⟩:=AK9
 obtain⟨xs,n,_,hx,hl,hlen,hf⟩:=DataW.trod_struct hu h
 rw[AKi] at hl
 match cs,hl with
 | [u0,u1,u2,u3,u4],_=>
  have hat:∀ (i:Nat) (q:TypeId×Nat×Nat),[((3:TypeId),0,1),(9,1,1),(4,2,1),(3,3,1),(30,4,1)][i]? = some q→∃ y,xs[i]? = some y∧DataW.trod enc TP w base sp held n q.1 (([u0,u1,u2,u3,u4].drop q.2.1).take q.2.2)=some y:=fun i q hq=>by
   rw[←hfs,A21] at hq
   obtain⟨f,hf1,hf2⟩:=A74.1 hq
   have hil:=(A02.1 hf1).1
   rw[B41] at hf1
   have hh:=hf i f hf1
   rw[B21] at hil
   obtain⟨y,hy⟩:∃ y,xs[i]? = some y:=⟨_,A00 (by omega)⟩
   rw[←hf2]
   exact⟨y,hy,hh.trans hy⟩
  obtain⟨y0,_,t0⟩:=hat 0 _ rfl
  obtain⟨y1,x1,t1⟩:=hat 1 _ rfl
  obtain⟨y2,_,t2⟩:=hat 2 _ rfl
  obtain⟨y3,_,t3⟩:=hat 3 _ rfl
  obtain⟨y4,x4,t4⟩:=hat 4 _ rfl
  obtain⟨up,e0,_⟩:=DataW.trod_int AK6 t0
  obtain⟨s,e1,x1e,_⟩:=DataW.trod_string ALH t1
  obtain⟨bo,e2,_⟩:=DataW.trod_bool ty4 t2
  obtain⟨pe,e3,_⟩:=DataW.trod_int AK6 t3
  obtain⟨bs,r4,b4⟩:=Qk (d:=y4.1) (p:=y4.2) AHe ty5 ce5 t4
  have d0:u0=.int .i64 up:=by simpa using e0
  have d1:u1=.string s:=by simpa using e1
  have d2:u2=.bool bo:=by simpa using e2
  have d3:u3=.int .i64 pe:=by simpa using e3
  have hbk:∀ (i:Nat) y,xs[i]? = some y→Rows.uptoBulk y.1≤Rows.uptoBulk d:=fun i y hy=>by
   simp only[B43] at hx
   have:=L5 (d:=y.1) (l:=xs.map (·.1)) (A35.2 ⟨y,A28 hy,rfl⟩)
   rw[hx.1];simp only[Rows.uptoBulk];omega
  refine⟨⟨up,s.data.toList,bo,pe,bs⟩,u4,by rw[d0,d1,d2,d3];rfl,r4,?_,B28 b4 (hbk 4 y4 x4)⟩
  have:=hbk 1 y1 x1
  rw[x1e] at this
  simp only[Rows.uptoBulk] at this
  show s.data.toList.length≤_
  omega
theorem AJr (ht:TP.underlying t=some (.slice 149))(h:DataW.trod enc TP w base sp held fuel t [v]=some (d,p)) :
  ∃ (vs:List Value) (l:List PIt),RdV 5 v l.length vs (allR w.heap)∧AI7 (allR w.heap) vs l∧l.length≤Rows.uptoBulk d∧∀ q∈l,q.nm.length≤Rows.uptoBulk d∧q.data.length≤Rows.uptoBulk d:=by
 obtain⟨vs,ds,r,hg,hb⟩:=AJ3 ht AKi (by omega) h
 obtain⟨l,h1,h2⟩:=Se (P:=fun i (q:PIt)=>(∃ dv,(vs.drop (i*5)).take 5=q.cells dv∧RdX (allR w.heap) dv q.data)∧q.nm.length≤Rows.uptoBulk d∧q.data.length≤Rows.uptoBulk d) ds.length fun i hi=>by
  obtain⟨n,q,h4⟩:=hg i _ (A00 hi)
  obtain⟨it,dv,h5,h6,h7,h8⟩:=AJ1 h4
  have:=L5 (Q3 hi)
  exact⟨it,⟨dv,h5,h6⟩,by omega,by omega⟩
 have:=OM ds
 refine⟨vs,l,by rw[h1];exact r,fun i q hq=>(h2 i q hq).1,by omega,fun q hq=>?_⟩
 obtain⟨i,hi,rfl⟩:=B00 hq
 exact (h2 i _ (A00 hi)).2
end
theorem AKq:TP.underlying 89=some (.slice 149):=by kernel_rfl
theorem AJS (K:Type)(enc:TypeId×Value→K)(W:World)(base:Nat)(args:Array Value)(ds gs:List (DataW K))(before:List MemPlace)
  (hval:∀ (j:Nat) t v,Tryz.f8.params[j]? = some t→args[j]? = some v→Value.okWide Tryz.prog W .any base t v)
  (hW:DataW.Whole enc Tryz.prog Tryz.f8.params.toList Rows.fnPlanInImageSpec.vars false W args.toList ds gs before) (hk:Rows.uptoSmall K (ds++gs)=true) (hL:laidMetH Tryz.prog Rows.fnPlanInImageRow.laid W) :
  Calls Tryz.prog 8 args W fun e W'=>∃ v,e=.returned v∧Rows.fnPlanInImageSpec.post enc Tryz.prog Tryz.f8 false true false false W args v W':=by
 have hW':=hW
 obtain⟨p,q,hA0,hV,rfl,hfz,hnd⟩:=hW
 have hA:DataW.TrodAll enc Tryz.prog W 0 (fun _=>true) true Tryz.f8.params.toList args.toList ds p:=hA0
 rw[Tryz.params8] at hA hval
 obtain⟨v0,vs0,d0,ds0,p0,q0,hargs,rfl,rfl,h0,r0⟩:=trodAll_cons hA
 obtain⟨v1,vs1,d1,ds1,p1,q1,rfl,rfl,rfl,h1,r1⟩:=trodAll_cons r0
 obtain⟨rfl,rfl,rfl⟩:=trodAll_nil r1
 obtain rfl:args=#[v0,v1]:=by cases args;simp_all
 obtain⟨rfl,rfl⟩:=trodVars_none hV
 have h1k:=h1
 obtain⟨inl,rfl,rfl,rfl⟩:=open_bool ty4 (hval 1 4 v1 rfl rfl) h1
 have hk2:Rows.uptoBulkAll ([d0,.lit (.bool inl)]++[])≤1048576:=of_decide_eq_true hk
 have hb0:Rows.uptoBulk d0≤1048576:=by
  have:=L5 (d:=d0) (l:=[d0,DataW.lit (.bool inl)]++[]) (by simp)
  omega
 have hc0:v0.cells.toList=[v0]:=by
  have h:=hval 0 89 v0 rfl rfl
  unfold Value.okWide at h
  rw[AKq] at h
  unfold Cell.okWide at h
  cases v0<;>first|rfl|(simp[AKq,Cell.ok] at h)
 obtain⟨fuel,hf⟩:=id h0
 rw[hc0] at hf
 obtain⟨vs,l,rd,pv,hl,hb⟩:=AJr AKq hf
 have walk:=Xr (f:=8) (args:=[v0,.bool inl]) (W:=W) (ALB (s8 rd pv (by omega) (fun q hq=>by have:=hb q hq;omega) (ADS hL) (YW W.heap) fun y h w=>⟨rfl,y,w⟩))
 refine walk.mono fun e W' ⟨he,w1,w2,w3⟩=>⟨_,he,?_⟩
 have hlt:=hW'.lt
 have same:=Yd hlt w3
 refine⟨_,_,_,[],_,[],hW',trodAll_cons_mk (shut_bool ty4 _) trodAll_mk0,trodAll_cons_mk (WideElems.Trod_stays SF (by kernel_rfl) (of_decide_eq_true (by kernel_rfl)) h0 (fun x hx=>same x (by simp[hx])) (fun x hx=>by simpa using hlt x (by simp[hx])))
  (trodAll_cons_mk (WideElems.Trod_stays SF (by kernel_rfl) (of_decide_eq_true (by kernel_rfl)) h1k (fun x hx=>by cases hx) (fun x hx=>by cases hx)) trodAll_mk0),rfl,Zl w1 w2 w3,fun h=>by cases h⟩
noncomputable def Iz (os:Os):World:=
 {World.holding Tryz.prog os ⟨#[],#[],[]⟩ with heap:=(World.holding Tryz.prog os ⟨#[],#[],[]⟩).heap.modify 4 fun
   | .cells _ t frozen=>.cells ⟨PXc⟩ t frozen
   | o=>o}
theorem AJ4 (os:Os):laidMet Tryz.prog Rows.fnPlanInImageUptoRow.laid ((Iz os).forCall (fun _ _=>0) ⟨#[],#[.slice none 0 0,.bool false],[]⟩).memory:=
 laidMet_of_run' 8 (by kernel_rfl) (by kernel_rfl)
theorem AJp (os:Os){K:Type}(enc:TypeId×Value→K):∃ places,DataW.whole enc Tryz.prog ((Iz os).forCall (fun _ _=>0) ⟨#[],#[.slice none 0 0,.bool false],[]⟩).memory Tryz.f8.params.toList Rows.fnPlanInImageSpec.vars false #[Value.slice none 0 0,Value.bool false].toList 8=some ([.nil,.lit (.bool false)],[],places):=
 ⟨[],by kernel_rfl⟩
theorem AJf (os:Os)(started:os.Started)(K:Type)(enc:TypeId×Value→K)(F:Stop.Interp) :
  ReturnsInHanded {} Tryz.checked os 8 .any ((Rows.OpenSpec.upto Rows.fnPlanInImageSpec).preRow enc Tryz.prog Tryz.f8 Rows.fnPlanInImageUptoRow.domain false Rows.fnPlanInImageUptoRow.laid) (((Rows.OpenSpec.upto Rows.fnPlanInImageSpec).at F).post enc Tryz.prog Tryz.f8 false true false false):=by
 obtain⟨places,hx⟩:=AJp os enc
 refine returnsInHanded_of_row (C:=Tryz.checked) (s:=Rows.OpenSpec.upto Rows.fnPlanInImageSpec) AHb started (by kernel_rfl) Tryz.func8
  (witness_row_at (enc:=enc) (C:=Tryz.checked) false (Iz os) #[.slice none 0 0,.bool false] rfl (by kernel_rfl) (by kernel_rfl) (by kernel_rfl)
   (OpenSpec.preRow_of_cond 8 hx (by kernel_rfl) (fun k hk=>by cases hk;kernel_rfl) (by kernel_rfl) (AJ4 os))) ?_
 intro W base args ds gs before hval hW _ hcond _ hL _ _
 exact AJS K enc W base args ds gs before hval hW (hcond _ rfl) hL
theorem AJ5:Rows.FnPlanInImageUptoSaid:=
 OpenClaim.holds_of_cond 8 Tryz.f8 rfl rfl rfl rfl rfl rfl rfl ⟨rfl,rfl,rfl,rfl,rfl⟩ rfl rfl rfl rfl rfl (by kernel_rfl) Tryz.func8 (by kernel_rfl)
  (of_decide_eq_true (by kernel_rfl)) (by unfold Func.isWrapper;first|(rw[A03 (by decide +kernel)];kernel_rfl)|(rw[A05 (by decide +kernel)];exact⟨rfl,rfl⟩))
  (fun os started K enc _ F=>by rw[OpenClaim.pre_eq_preRow];exact AJf os started K enc F)
theorem AJl (f:FuncId)(fn:Func)(hf : Tryz.pinned.checked.prog.funcNamed "pub-marram/laws.FnPlanInImage" = some f)(hfn:Tryz.pinned.checked.prog.funcs[f]? = some fn) :
  true=Tryz.pinned.checked.prog.looks []∧∀ (j:Nat) t,fn.params[j]? = some t→Tryz.pinned.checked.prog.wantsStandIn t=false:=by
 obtain rfl:f=8:=A14 ((show Tryz.prog.funcNamed "pub-marram/laws.FnPlanInImage" = some 8 by kernel_rfl).symm.trans hf) |>.symm
 obtain rfl:fn=Tryz.f8:=(A14 (Tryz.func8.symm.trans hfn)).symm
 refine⟨by kernel_rfl,fun j t ht=>?_⟩
 rw[Tryz.params8] at ht
 have hm:=B24 ht
 simp only[List.mem_toArray,A32,B45,or_false] at hm
 rcases hm with rfl|rfl
 ·exact (show Tryz.prog.wantsStandIn 89=false by kernel_rfl)
 ·exact (show Tryz.prog.wantsStandIn 4=false by kernel_rfl)
theorem plan_card:Rows.FnPlanInImageUptoCardSaid:=
 Claim7.holds_tied_plain_at .later [] _ _ _ _ AJ5 (fun _ h=>by cases h) (by kernel_rfl) (fun _ h=>by cases h) fnPlanInImageUpto_row_tie rfl ⟨rfl,rfl⟩ (by kernel_rfl) rfl AJl (by kernel_rfl)
end
end Go.Proofs.YtollddkkdgoonaaGreatDoor
