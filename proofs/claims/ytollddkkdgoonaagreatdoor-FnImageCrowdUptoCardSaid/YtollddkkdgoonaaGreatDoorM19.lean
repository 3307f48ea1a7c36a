/- A part of a proof over images that are written and read. No condition; a step. -/
import Derived.Test.YtollddkkdgoonaaGreatDoorM18
namespace Go.Proofs.YtollddkkdgoonaaGreatDoor
open Go
set_option linter.unusedVariables false
set_option linter.unusedSimpArgs false
section
variable {h:H} {k:Value→Prop} {kt Q:Kt} {x y z r A:Res} {v:VS}
attribute [local irreducible] AK Az AQ BB Ae AY AH AM VS.cells XN.cells
inductive WalkR (I:Bs) (nb ipg:Nat):Nat→Bs→TS→List AA→Bs→TS→List AA→Prop
 | done {ow:Bs} {S:TS} {os:List AA}:S.q=[]→WalkR I nb ipg 0 ow S os ow S os
 | file {k n:Nat} {ow ow1 ow' C:Bs} {S S':TS} {os os':List AA} {q:List Nat} {X:XN} {l:List (Bs×Bs)} {cl:List Nat}:S.q=n::q→1≤n→n≤ipg→InoOK I nb (rawL I n) n X C l cl→Clm cl ow ow1→kindL X.mode≠2 →
   WalkR I nb ipg k ow1 {S with q:=q} (os++[⟨X,C,xaOf l,[]⟩]) ow' S' os'→WalkR I nb ipg (k+1) ow S os ow' S' os'
 | dir {k n:Nat} {ow ow1 ow' C:Bs} {S S':TS} {os os':List AA} {q:List Nat} {X:XN} {l:List (Bs×Bs)} {cl:List Nat} {E:List EN}:S.q=n::q→1≤n→n≤ipg→InoOK I nb (rawL I n) n X C l cl→Clm cl ow ow1→kindL X.mode=2 →
   X.inl=false→BlkR C E→C.length<10000000→NamesOK E→E[0]? = some ([46],X.num,2)→E[1]? = some ([46,46],S.par.getD n 0,2)→E.length<10000000→EntsR I ipg n {S with q:=q} E →
   WalkR I nb ipg k ow1 (E.foldl (TS.stp n) {S with q:=q}) (os++[⟨X,C,xaOf l,E⟩]) ow' S' os'→WalkR I nb ipg (k+1) ow S os ow' S' os'
section
variable {m n N:Nat} {S S':TS} {os os':List AA} {cs:List Value} {x4 x5 x6 x7 x8:Value}
theorem EU {I b C:Bs}{nb n:Nat}{X:XN}{l:List (Bs×Bs)}{cl:List Nat}(io:InoOK I nb b n X C l cl):X.mode<65536∧X.num=n:=by
 have cf:=Fj io.con
 have:leL b 0 2<65536:=Ag
 exact⟨by rw[cf.2.2.1];exact this,by rw[cf.2.2.2.2.2];rfl⟩
set_option maxRecDepth 20000 in
theorem AFY {o':Bs}{kk:Nat}(ok:v.OK x)(hit:itL v.I*4096+v.ipg*256≤v.I.length)(hN:N=v.ipg+1)(wr:WalkR v.I v.nb v.ipg kk v.ow S os o' S' os')(hm:m+kk<1000000)(d:Vec 81 23 v.iv m cs r)(ov:OutV z cs os)(t:TR N S x4 x5 x6 x7 x8 A)(w:AN (v.res+(r+(A+(z+x)))) h)
  (K:∀ (rec2:Value→H→Prop) iv r cs A z x8 h,Vec 81 23 iv (m+kk) cs r→OutV z cs os'→TR N S' x4 x5 x6 x7 x8 A→S'.q=[]→((v.ino iv).own o').OK x→AN (((v.ino iv).own o').res+(r+(A+(z+x)))) h→LC Q rec2 (Pt v.vb) (.int .u64 ((11:Nat):Int)) x4 x5 x6 x7 x8 h) :
  X5 Q (Pt v.vb) (.int .u64 ((11:Nat):Int)) x4 x5 x6 x7 x8 h:=by
 unfold X5
 refine Ba (fun kk' u h'=>∃ m' iv ow S os cs r A z,m'+kk'=m+kk∧ow.length=v.ow.length∧WalkR v.I v.nb v.ipg kk' ow S os o' S' os'∧Vec 81 23 iv m' cs r∧OutV z cs os∧TR N S x4 x5 x6 x7 u A∧AN (((v.ino iv).own ow).res+(r+(A+(z+x)))) h') kk ⟨m,v.iv,v.ow,S,os,cs,r,A,z,rfl,rfl,wr,d,ov,t,w⟩ ?_
 rintro rec kk' u h' ⟨m',iv,ow,S,os,cs,r,A,z,hmk,hol,wr,d,ov,t,w⟩ hrec
 have ok1:((v.ino iv).own ow).OK x:=(ok.ino (u:=iv)).own hol
 cases wr with
 | done hq=>exact K rec iv r cs A z u h' (by rw[←hmk];exact d) ov t hq ok1 w
 | file hq h1 h2 io c hk wr2=>
  rename_i k2 n ow1 C q X l cl
  obtain⟨r4,r5,r6,r7,rq,rfl,a4,a5,a6,a7,aq⟩:=t
  rw[hq] at aq
  obtain⟨⟨qa,qc,hu⟩,_⟩:=aq.len
  have hmo:=EU io
  unfold LC
  rw[hu,Aw,Ao,A04 (by rw[A19];omega),Ak,←hu]
  have k1:∀ V R R4 R5 R6 R7 RQ Z X:Res,V+(R+((R4+(R5+(R6+(R7+RQ))))+(Z+X)))=RQ+(V+((R+((R4+(R5+(R6+R7)))+Z))+X)):=by intros;ac_rfl
  have w:=w.cast (k1 _ _ _ _ _ _ _ _ _)
  refine aq.get (i:=0) (u:=.int .u64 (n:Nat)) w rfl ?_
  refine aq.tail (by rw[A19];omega) fun u' aq=>?_
  have k2':∀ RQ V Y X:Res,RQ+(V+(Y+X))=V+((RQ+Y)+X):=by intros;ac_rfl
  refine SL _ _ _ _ (AEn (v:=(v.ino iv).own ow) ok1 h1 h2 hit io c (w.cast (k2' _ _ _ _)) fun cv xv xcs z' h dcv dxv dat ok2 w=>?_)
  refine Ah w Cy rfl fun xb h w=>?_
  obtain⟨ca,cc,hcv⟩:=dcv.len
  obtain⟨⟨xa,xc,hxv⟩,_⟩:=dxv.len
  have hone:(X.cells cv (.slice none 0 0) xv).all Value.oneCell'=true:=by rw[hcv,hxv];exact XN.one
  have ff:∀ (o:Nat) (k:Value→Prop),AC o (Pt xb) k=k (.pointer (some ⟨xb,o,none⟩)):=fun o k=>by simp only[go_sem]
  have w:AN (pts xb (.cells ⟨If.cells (.slice none 0 0) (.slice none 0 0) (.slice none 0 0)⟩ 81 (0,0))+(((v.ino iv).own ow1).res+(z'+((rq+((r+((r4+(r5+(r6+r7)))+z))))+x)))) h:=w
  refine AL w ⟨X.cells cv (.slice none 0 0) xv⟩ (Ar (by rw[XN.size_];exact XN.len)) XN.size_ (by rw[XN.size_];omega) hone fun h w=>?_
  rw[ff]
  refine AW w XN.g1 ?_
  refine E9 _ _ _ (YT hmo.1 ?_)
  rw[Aa,A08 (by omega),AU]
  have k3:∀ P V Z' RQ R R4 R5 R6 R7 Z X:Res,P+(V+(Z'+((RQ+(R+((R4+(R5+(R6+R7)))+Z)))+X)))=V+(R+(P+((R4+(R5+(R6+(R7+RQ))))+((Z'+Z)+X)))):=by intros;ac_rfl
  refine ABc (v:=(v.ino iv).own ow1) (o:=⟨X,C,xaOf l,[]⟩) (ev:=.slice none 0 0) d (ov.mono (y:=z')) (by omega) dcv.addL (Vec.nil.vx.addL (y:=z'+z) |> fun q=>by rw[Res.zero_add] at q;exact q) dxv.addL dat.addL (w.cast (k3 _ _ _ _ _ _ _ _ _ _ _)) fun iv' r cs h d ov w=>?_
  have k4:∀ V R P A Z X:Res,V+(R+(P+(A+(Z+X))))=V+(R+(A+((P+Z)+X))):=by intros;ac_rfl
  exact hrec k2 _ _ ⟨m'+1,iv',ow1,{S with q:=q},_,cs,r,_,_,by omega,c.len.trans hol,wr2,d,ov.mono,⟨r4,r5,r6,r7,rq,rfl,a4,a5,a6,a7,aq⟩,w.cast (k4 _ _ _ _ _ _)⟩ (by omega)
 | dir hq h1 h2 io c hk hin hB hC hNm hE0 hE1 hEl hEs wr2=>
  rename_i k2 n ow1 C q X l cl E
  obtain⟨r4,r5,r6,r7,rq,rfl,a4,a5,a6,a7,aq⟩:=t
  rw[hq] at aq
  obtain⟨⟨qa,qc,hu⟩,_⟩:=aq.len
  have hmo:=EU io
  unfold LC
  rw[hu,Aw,Ao,A04 (by rw[A19];omega),Ak,←hu]
  have k1:∀ V R R4 R5 R6 R7 RQ Z X:Res,V+(R+((R4+(R5+(R6+(R7+RQ))))+(Z+X)))=RQ+(V+((R+((R4+(R5+(R6+R7)))+Z))+X)):=by intros;ac_rfl
  have w:=w.cast (k1 _ _ _ _ _ _ _ _ _)
  refine aq.get (i:=0) (u:=.int .u64 (n:Nat)) w rfl ?_
  refine aq.tail (by rw[A19];omega) fun u' aq=>?_
  have k2':∀ RQ V Y X:Res,RQ+(V+(Y+X))=V+((RQ+Y)+X):=by intros;ac_rfl
  refine SL _ _ _ _ (AEn (v:=(v.ino iv).own ow) ok1 h1 h2 hit io c (w.cast (k2' _ _ _ _)) fun cv xv xcs z' h dcv dxv dat ok2 w=>?_)
  refine Ah w Cy rfl fun xb h w=>?_
  obtain⟨ca,cc,hcv⟩:=dcv.len
  obtain⟨⟨xa,xc,hxv⟩,_⟩:=dxv.len
  have hone:(X.cells cv (.slice none 0 0) xv).all Value.oneCell'=true:=by rw[hcv,hxv];exact XN.one
  have ff:∀ (o:Nat) (k:Value→Prop),AC o (Pt xb) k=k (.pointer (some ⟨xb,o,none⟩)):=fun o k=>by simp only[go_sem]
  have w:AN (pts xb (.cells ⟨If.cells (.slice none 0 0) (.slice none 0 0) (.slice none 0 0)⟩ 81 (0,0))+(((v.ino iv).own ow1).res+(z'+((rq+((r+((r4+(r5+(r6+r7)))+z))))+x)))) h:=w
  refine AL w ⟨X.cells cv (.slice none 0 0) xv⟩ (Ar (by rw[XN.size_];exact XN.len)) XN.size_ (by rw[XN.size_];omega) hone fun h w=>?_
  rw[ff]
  refine AW w XN.g1 ?_
  refine E9 _ _ _ (YT hmo.1 ?_)
  rw[Aa,A04 (by omega),Ak]
  have hl5:n<S.par.length:=by have:=a5.len.2;unfold nC at this;rw[A25] at this;omega
  have k5:∀ P V Z' RQ R R4 R5 R6 R7 Z X:Res,P+(V+(Z'+((RQ+(R+((R4+(R5+(R6+R7)))+Z)))+X)))=R5+(P+(V+(Z'+(RQ+(R+(R4+(R6+(R7+(Z+X))))))))):=by intros;ac_rfl
  have w:=w.cast (k5 _ _ _ _ _ _ _ _ _ _ _)
  refine Bu a5 w (HZ hl5) ?_
  have k6:∀ P V Z' RQ R R4 R5 R6 R7 Z X:Res,R5+(P+(V+(Z'+(RQ+(R+(R4+(R6+(R7+(Z+X)))))))))=P+(Z'+(V+((R4+(R5+(R6+(R7+RQ))))+(R+(Z+X))))):=by intros;ac_rfl
  refine AAY _ _ _ _ _ (AG4 hin dcv.addL hB hC hNm hE0 hE1 (w.cast (k6 _ _ _ _ _ _ _ _ _ _ _)) fun ev z2 h de w=>?_)
  obtain⟨⟨ea,ec,hev⟩,_⟩:=de.len
  rw[ff]
  refine AW w XN.g19 ?_
  rw[hev,Aw,←hev]
  have k7:∀ P Z2 Z' V A R Z X:Res,P+(Z2+(Z'+(V+(A+(R+(Z+X))))))=V+(A+(0+((P+(Z2+(Z'+(R+Z))))+X))):=by intros;rw[Res.zero_add];ac_rfl
  have okl:((v.ino iv).own ow1).OK ((pts xb (.cells ⟨X.cells cv ev xv⟩ 81 (0,0))+(z2+(z'+(r+z))))+x):=ok2.mono
  refine AGW (v:=(v.ino iv).own ow1) (S:={S with q:=q}) okl hit de.addL.addR.addL hEl ⟨r4,r5,r6,r7,rq,rfl,a4,a5,a6,a7,aq⟩ hN hEs (by omega) (w.cast (k7 _ _ _ _ _ _ _ _)) fun x8 A z3 h t w=>?_
  have k8:∀ V A Z3 P Z2 Z' R Z X:Res,V+(A+(Z3+((P+(Z2+(Z'+(R+Z))))+X)))=V+(R+(P+(A+(((Z3+(Z2+Z'))+Z)+X)))):=by intros;ac_rfl
  refine ABc (v:=(v.ino iv).own ow1) (o:=⟨X,C,xaOf l,E⟩) d (ov.mono (y:=z3+(z2+z'))) (by omega) dcv.addR.addR.addL de.addL.addR.addL dxv.addR.addR.addL dat.mono.mono.addL (w.cast (k8 _ _ _ _ _ _ _ _ _)) fun iv' r cs h d ov w=>?_
  have k4:∀ V R P A Z X:Res,V+(R+(P+(A+(Z+X))))=V+(R+(A+((P+Z)+X))):=by intros;ac_rfl
  exact hrec k2 _ _ ⟨m'+1,iv',ow1,_,_,cs,r,_,_,by omega,c.len.trans hol,wr2,d,ov.mono,t,w.cast (k4 _ _ _ _ _ _)⟩ (by omega)
end
end
section
variable {h:H} {k:Value→Prop} {kt Q:Kt} {x y z r A:Res} {v:VS}
attribute [local irreducible] AK Az AQ BB Ae AY AH AM VS.cells XN.cells
theorem OutV.len:∀ {cs:List Value} {os:List AA},OutV x cs os→cs.length=os.length*23
 | _,_,.nil=>rfl
 | _,_,.snoc a _ _ _ _=>by
  have:=a.len
  rw[A01,A01,XN.len,this]
  simp;omega
theorem OutV.get:∀ {cs:List Value} {os:List AA} {i:Nat} {o:AA},OutV x cs os→os[i]? = some o →
  ∃ cv ev xv xas,(cs.drop (i*23)).take 23=o.X.cells cv ev xv∧RdX x cv o.C∧VecX 114 3 ev o.E.length (entC o.E) x∧VecX 86 2 xv o.l.length xas x∧AtV x xas o.l
 | _,_,_,_,.nil,e=>by simp at e
 | _,_,i,o,.snoc (cs:=cs) (os:=os) (o:=o') (cv:=cv) (ev:=ev) (xv:=xv) (xas:=xas) a b c d f,e=>by
  have hl:=a.len
  rcases A66 i os.length with h1|h1
  ·rw[A18 h1] at e
   obtain⟨cv,ev,xv,xas,g1,g2⟩:=a.get e
   refine⟨cv,ev,xv,xas,?_,g2⟩
   rw[A52 (by omega),A24 (by rw[A27];omega)]
   exact g1
  ·rw[A17 h1] at e
   have hi:i=os.length:=by
    rcases A66 (i-os.length) 1 with h2|h2
    ·omega
    ·rw[A40 (by simpa using h2)] at e;cases e
   subst hi
   rw[A87] at e
   simp only[A51,A26] at e
   subst e
   refine⟨cv,ev,xv,xas,?_,b,c,d,f⟩
   rw[←hl,A83,A43 (by rw[XN.len];omega)]
def LinksOK (N:Nat)(S:TS)(os:List AA):Prop:=∀ o∈os,o.X.num<N∧o.X.mode<65536∧S.sub.getD o.X.num 0<1000000∧o.X.links=if kindL o.X.mode=2 then S.sub.getD o.X.num 0+2 else S.nam.getD o.X.num 0
section
variable {N:Nat} {S:TS} {os:List AA} {cs:List Value} {x0 x6 x7 iv:Value} {r6 r7:Res}
set_option maxRecDepth 20000 in
theorem AEm (lo:LinksOK N S os)(d:VecX 81 23 iv os.length cs x)(ov:OutV y cs os)(a6:Vec 48 1 x6 N (nC S.nam) r6)(a7:Vec 48 1 x7 N (nC S.sub) r7)(hn:os.length<1000000)(w:AN (r6+(r7+(z+x))) h)
  (K:∀ z h,AN (r6+(r7+(z+x))) h→Q (.tuple #[]) h):XC Q x0 x6 x7 iv (.int .i64 (os.length:Nat)) (.int .i64 ((0:Nat):Int)) h:=by
 have hl6:S.nam.length=N:=by have:=a6.len.2;unfold nC at this;rw[A25] at this;omega
 have hl7:S.sub.length=N:=by have:=a7.len.2;unfold nC at this;rw[A25] at this;omega
 unfold XC
 refine Ba (fun m u h'=>∃ i z,m=os.length-i∧i≤os.length∧u=.int .i64 (i:Nat)∧AN (r6+(r7+(z+x))) h') os.length ⟨0,z,rfl,A39 _,rfl,w⟩ ?_
 rintro rec m u h' ⟨i,z,rfl,hi,rfl,w⟩ hrec
 unfold W0
 rw[AT]
 refine AX (fun hc=>?_) (fun hc=>K z h' w)
 have hil:i<os.length:=by omega
 obtain⟨o,ho⟩:∃ o,os[i]? = some o:=⟨_,A00 hil⟩
 obtain⟨cv,ev,xv,xas,hcs,b,c,dd,f⟩:=ov.get ho
 obtain⟨g1,g2,g3,g4⟩:=lo o (A28 ho)
 obtain⟨ca,cc,hcv⟩:=b.len
 obtain⟨⟨ea,ec,hev⟩,_⟩:=c.len
 obtain⟨⟨xa,xc,hxv⟩,_⟩:=dd.len
 have hone:(o.X.cells cv ev xv).all Value.oneCell'=true:=by rw[hcv,hev,hxv];exact XN.one
 refine (d.addR.addR.addR:VecX 81 23 iv os.length cs _).agg w hil ?_
 rw[hcs]
 refine Ah w Cy rfl fun xb h w=>?_
 refine AL w ⟨o.X.cells cv ev xv⟩ (Ar (by rw[XN.size_];exact XN.len)) XN.size_ (by rw[XN.size_];omega) hone fun h w=>?_
 have ff:∀ (o:Nat) (k:Value→Prop),AC o (Pt xb) k=k (.pointer (some ⟨xb,o,none⟩)):=fun o k=>by simp only[go_sem]
 have k1:∀ P R6 R7 Z X:Res,P+(R6+(R7+(Z+X)))=R6+(P+(R7+(Z+X))):=by intros;ac_rfl
 have k2:∀ P R6 R7 Z X:Res,R6+(P+(R7+(Z+X)))=R7+(P+(R6+(Z+X))):=by intros;ac_rfl
 have k3:∀ P R6 R7 Z X:Res,R6+(P+(R7+(Z+X)))=R6+(R7+((P+Z)+X)):=by intros;ac_rfl
 have w:=w.cast (k1 _ _ _ _ _)
 have f1:(AD .add (.int .i64 (i:Nat)) (.int .i64 1))=fun k=>k (.int .i64 (i+1:Nat)):=funext fun k=>by
  rw[BN (n:=1),Ci (by omega)]
 have fin:∀ want:Nat,want=o.X.links→PK Q rec x0 x6 x7 (Pt xb) (.int .u64 (want:Nat)) iv (.int .i64 (os.length:Nat)) (.int .i64 (i:Nat)) h:=by
  intro want hw
  unfold PK
  rw[ff]
  refine AW w XN.g5 ?_
  rw[Aa,A04 (by omega),ff]
  refine AW w XN.g0 ?_
  refine Al _ _ _ _ _ _ (Da ?_)
  rw[f1]
  exact hrec (os.length-(i+1)) _ _ ⟨i+1,_,rfl,hil,rfl,w.cast (k3 _ _ _ _ _)⟩ (by omega)
 rw[ff]
 refine AW w XN.g0 ?_
 refine Bu a6 w (HZ (by omega)) ?_
 rw[ff]
 refine AW w XN.g1 ?_
 refine E9 _ _ _ (YT g2 ?_)
 rw[Aa]
 refine AX (fun hk=>?_) (fun hk=>?_)
 ·rw[ff]
  refine AW w XN.g0 ?_
  refine Bu a7 (w.cast (k2 _ _ _ _ _)) (HZ (by omega)) ?_
  rw[BN (n:=2),CU (by omega)]
  exact fin _ (by rw[g4,A03 (by omega)])
 ·exact fin _ (by rw[g4,A05 (by omega)])
end
end
section
variable {h:H} {k:Value→Prop} {kt Q:Kt} {x y z r A:Res} {v:VS}
attribute [local irreducible] AK Az AQ BB Ae AY AH AM VS.cells XN.cells
theorem XN.at1 {X:XN}{cv ev xv:Value}{l:List Value}(h:(l.drop (0*23)).take 23=X.cells cv ev xv):l[0*23+1]? = some (.int .u16 (X.mode:Nat)):=by
 have:((l.drop (0*23)).take 23)[1]? = some (.int .u16 (X.mode:Nat)):=by
  rw[h]
  exact XN.g1 (X:=X) (cv:=cv) (ev:=ev) (xv:=xv) |> fun q=>by simpa using q
 rw[A41] at this
 simpa using this
section
variable {N m:Nat} {S:TS} {os:List AA} {cs:List Value} {x4 x5 x6 x7 x8 x1:Value} {rec2:Value→H→Prop} {o0:AA}
set_option maxRecDepth 20000 in
theorem ABl (d:Vec 81 23 v.iv os.length cs r)(ov:OutV z cs os)(t:TR N S x4 x5 x6 x7 x8 A)(hq:S.q=[])(lo:LinksOK N S os)(h0:os[0]? = some o0)(hk:kindL o0.X.mode=2)(hn:os.length<1000000)(w:AN (v.res+(r+(A+(z+x)))) h)
  (K:∀ z h,VecX 81 23 v.iv os.length cs z→OutV z cs os→AN (v.res+(z+x)) h→Q (.tuple #[]) h):LC Q rec2 (Pt v.vb) x1 x4 x5 x6 x7 x8 h:=by
 obtain⟨r4,r5,r6,r7,rq,rfl,a4,a5,a6,a7,aq⟩:=t
 rw[hq] at aq
 obtain⟨⟨qa,qc,hu⟩,_⟩:=aq.len
 obtain⟨g1,g2,g3,g4⟩:=lo o0 (A28 h0)
 obtain⟨cv,ev,xv,xas,hcs,_⟩:=ov.get h0
 obtain⟨⟨ia,ic,hiv⟩,_⟩:=d.len
 have h0l:0<os.length:=(A02.1 h0).1
 have nf:∀ (k:Value→Prop),(AE (Pt v.vb) fun x161=>AC 0 x161 k)=k (.pointer (some ⟨v.vb,0,none⟩)):=fun k=>by simp only[go_sem]
 unfold LC
 rw[hu,Aw,Ao,A08 (by simp),AU,nf]
 refine AW w VS.g0 ?_
 have dx:VecX 81 23 v.iv os.length cs (v.res+(r+((r4+(r5+(r6+(r7+rq))))+(z+x)))):=d.vx.addL.addR
 refine dx.cell (i:=0) w h0l (by omega) (XN.at1 hcs) ?_
 refine E9 _ _ _ (YT g2 ?_)
 rw[Aa,A04 (by omega)]
 refine Al _ _ _ _ _ _ (Da ?_)
 rw[nf]
 refine AW w VS.g0 ?_
 rw[hiv,Aw,←hiv]
 have k1:∀ V R R4 R5 R6 R7 RQ Z X:Res,V+(R+((R4+(R5+(R6+(R7+RQ))))+(Z+X)))=R6+(R7+((R4+(R5+RQ))+(R+(Z+(V+X))))):=by intros;ac_rfl
 have k2:∀ V R R6 R7 Z2 Z X:Res,R6+(R7+(Z2+(R+(Z+(V+X)))))=V+((R+(Z+(R6+(R7+Z2))))+X):=by intros;ac_rfl
 exact AEm lo d.vx.addL ov a6 a7 hn (w.cast (k1 _ _ _ _ _ _ _ _ _)) fun z2 h w=>K _ h d.vx.addL ov.addL.mono (w.cast (k2 _ _ _ _ _ _ _))
end
end
section
variable {h:H} {k:Value→Prop} {kt Q:Kt} {x y z r A:Res} {v:VS}
attribute [local irreducible] AK Az AQ BB Ae AY AH AM VS.cells XN.cells
theorem Qw:AG TP 4=some (.bool false):=by kernel_rfl
def TS0 (N:Nat):TS:=⟨(List.replicate N false).set 2 true,(List.replicate N 0).set 2 2,List.replicate N 0,List.replicate N 0,[2]⟩
structure WalkOK (I:Bs) (nb ipg:Nat) (ow o':Bs) (S:TS) (os:List AA) (n:Nat):Prop where
 walk:WalkR I nb ipg n ow (TS0 (ipg+1)) [] o' S os
 nlt:n<1000000
 len:os.length=n
 links:LinksOK (ipg+1) S os
 root:∃ o,os[0]? = some o∧kindL o.X.mode=2
 hit:itL I*4096+ipg*256≤I.length
section
variable {o':Bs} {S:TS} {os:List AA} {kk b4 b5 b6 b7 N:Nat}
theorem VZ (ok:v.OK x)(hiv:v.iv=.slice none 0 0)(hN:N=v.ipg+1)(wo:WalkOK v.I v.nb v.ipg v.ow o' S os kk)
  (w:AN (v.res+(pts b4 (.cells ⟨List.replicate N (.bool false)⟩ 4 (0,0))+(pts b5 (.cells ⟨List.replicate N (.int .u64 0)⟩ 48 (0,0))+(pts b6 (.cells ⟨List.replicate N (.int .u64 0)⟩ 48 (0,0))+x)))) h)
  (K:∀ iv cs z h,VecX 81 23 iv os.length cs z→OutV z cs os→((v.ino iv).own o').OK x→AN (((v.ino iv).own o').res+(z+x)) h→Q (.tuple #[]) h) :
  MU Q (Pt v.vb) (.int .u64 ((11:Nat):Int)) (.slice (some ⟨b4,0,none⟩) N N) (.slice (some ⟨b5,0,none⟩) N N) (.slice (some ⟨b6,0,none⟩) N N) h:=by
 have hip:=ok.ipg
 have hi1:=ok.ipg1
 unfold MU
 rw[Aw]
 refine C4 w Cb rfl (A07 _) (by omega) (by omega) fun b7 h w=>?_
 refine G5 w Cb rfl rfl rfl fun b8 h w=>?_
 rw[Aw,BW,A08 (by omega),AU]
 have k1:∀ B8 B7 V B4 B5 B6 X:Res,B8+(B7+(V+(B4+(B5+(B6+X)))))=B4+(B8+(B7+(V+(B5+(B6+X))))):=by intros;ac_rfl
 have a4:Vec 4 1 (.slice (some ⟨b4,0,none⟩) N N) N (List.replicate N (.bool false)) (pts b4 (.cells ⟨List.replicate N (.bool false)⟩ 4 (0,0))):=.own' (A07 _) (by simp) (by simp)
 have a5:Vec 48 1 (.slice (some ⟨b5,0,none⟩) N N) N (List.replicate N (.int .u64 0)) (pts b5 (.cells ⟨List.replicate N (.int .u64 0)⟩ 48 (0,0))):=.own' (A07 _) (by simp) (by simp)
 have a6:Vec 48 1 (.slice (some ⟨b6,0,none⟩) N N) N (List.replicate N (.int .u64 0)) (pts b6 (.cells ⟨List.replicate N (.int .u64 0)⟩ 48 (0,0))):=.own' (A07 _) (by simp) (by simp)
 have a7:Vec 48 1 (.slice (some ⟨b7,0,none⟩) N N) N (List.replicate N (.int .u64 0)) (pts b7 (.cells ⟨List.replicate N (.int .u64 0)⟩ 48 (0,0))):=.own' (A07 _) (by simp) (by simp)
 refine DS (i:=2) (u:=.bool true) a4 (w.cast (k1 _ _ _ _ _ _ _)) (by omega) rfl rfl fun r4 h a4 w=>?_
 have k2:∀ R4 B8 B7 V B5 B6 X:Res,R4+(B8+(B7+(V+(B5+(B6+X)))))=B5+(R4+(B8+(B7+(V+(B6+X))))):=by intros;ac_rfl
 refine DS (i:=2) (u:=.int .u64 2) a5 (w.cast (k2 _ _ _ _ _ _ _)) (by omega) rfl rfl fun r5 h a5 w=>?_
 have aq:VecQ 48 (.slice (some ⟨b8,0,none⟩) 1 1) 1 (nC [2]) (pts b8 (.cells ⟨[.int .u64 2]⟩ 48 (0,0))):=.own' (A07 _) (by simp) rfl
 have t:TR N (TS0 N) (.slice (some ⟨b4,0,none⟩) N N) (.slice (some ⟨b5,0,none⟩) N N) (.slice (some ⟨b6,0,none⟩) N N) (.slice (some ⟨b7,0,none⟩) N N) (.slice (some ⟨b8,0,none⟩) 1 1) (r4+(r5+(pts b6 (.cells ⟨List.replicate N (.int .u64 0)⟩ 48 (0,0))+(pts b7 (.cells ⟨List.replicate N (.int .u64 0)⟩ 48 (0,0))+pts b8 (.cells ⟨[.int .u64 2]⟩ 48 (0,0)))))):=by
  refine⟨r4,r5,_,_,_,rfl,?_,?_,?_,?_,aq⟩
  ·have:bC (TS0 N).seen=(List.replicate N (.bool false)).set 2 (.bool true):=by unfold bC TS0;rw[B22,B03]
   rw[this];exact a4
  ·have:nC (TS0 N).par=(List.replicate N (.int .u64 0)).set 2 (.int .u64 2):=by unfold nC TS0;rw[B22,B03];rfl
   rw[this];exact a5
  ·have:nC (TS0 N).nam=List.replicate N (.int .u64 0):=by unfold nC TS0;rw[B03];rfl
   rw[this];exact a6
  ·have:nC (TS0 N).sub=List.replicate N (.int .u64 0):=by unfold nC TS0;rw[B03];rfl
   rw[this];exact a7
 have k3:∀ R5 R4 B8 B7 V B6 X:Res,R5+(R4+(B8+(B7+(V+(B6+X)))))=V+(0+((R4+(R5+(B6+(B7+B8))))+(0+X))):=by intros;rw[Res.zero_add,Res.zero_add];ac_rfl
 obtain⟨o0,ho0,hk0⟩:=wo.root
 refine AFY (m:=0) (S:=TS0 N) (os:=[]) (cs:=[]) ok wo.hit hN (by rw[hN];exact wo.walk) (by have:=wo.nlt;omega) (by rw[hiv];exact .nil) .nil t (w.cast (k3 _ _ _ _ _ _ _)) fun rec2 iv r cs A z x8 h d ov t hq ok2 w=>?_
 rw[A29,←wo.len] at d
 exact ABl (v:=(v.ino iv).own o') d ov t hq (by rw[hN];exact wo.links) ho0 hk0 (by rw[wo.len];exact wo.nlt) w fun z h d ov w=>K iv cs z h d ov ok2 w
theorem s68 (ok:v.OK x)(hiv:v.iv=.slice none 0 0)(wo:WalkOK v.I v.nb v.ipg v.ow o' S os kk)(w:AN (v.res+x) h)
  (K:∀ iv cs z h,VecX 81 23 iv os.length cs z→OutV z cs os→((v.ino iv).own o').OK x→AN (((v.ino iv).own o').res+(z+x)) h→Q (.tuple #[]) h) :
  f68 (Pt v.vb) (.int .u64 ((11:Nat):Int)) h Q:=by
 have hip:=ok.ipg
 have f1:(AD .mul (.int .u64 1) (.int .u64 (v.ipg:Nat)))=fun k=>k (.int .u64 (v.ipg:Nat)):=funext fun k=>by
  rw[Bc,Int.one_mul,CU (by omega)]
 unfold f68
 simp (disch:=omega) only[go_sem,AF w,f1]
 refine C4 w Qw rfl (A07 _) (by omega) (by omega) fun b4 h w=>?_
 rw[Aw,Aw]
 have k1:∀ B6 B5 B4 V X:Res,B6+(B5+(B4+(V+X)))=V+(B4+(B5+(B6+X))):=by intros;ac_rfl
 have k2:∀ B6 B5 B4 V X:Res,B5+(B6+(B4+(V+X)))=V+(B4+(B5+(B6+X))):=by intros;ac_rfl
 refine And.intro ?_ ?_
 ·refine C4 w Cb rfl (A07 _) (by omega) (by omega) fun b5 h w=>?_
  refine And.intro ?_ ?_
  ·exact C4 w Cb rfl (A07 _) (by omega) (by omega) fun b6 h w=>VZ ok hiv rfl wo (w.cast (k1 _ _ _ _ _)) K
  ·exact C4 w Cb rfl (A07 _) (by omega) (by omega) fun b6 h w=>VZ ok hiv rfl wo (w.cast (k1 _ _ _ _ _)) K
 ·refine C4 w Cb rfl (A07 _) (by omega) (by omega) fun b6 h w=>?_
  exact C4 w Cb rfl (A07 _) (by omega) (by omega) fun b5 h w=>VZ ok hiv rfl wo (w.cast (k2 _ _ _ _ _)) K
end
end
section
variable {h:H} {k:Value→Prop} {kt Q:Kt} {x y z r A:Res} {v:VS}
attribute [local irreducible] AK Az AQ BB Ae AY AH AM VS.cells XN.cells
def usd:Nat→List Bool→List Bool
 | 0,l=>l
 | n+1,l=>(usd n l).set (n+1) true
theorem J0:∀ (n:Nat) (l:List Bool),(usd n l).length=l.length
 | 0,_=>rfl
 | n+1,l=>by rw[usd,A89,J0 n l]
section
variable {N:Nat} {U:List Bool} {x0 x4 x5 sv:Value} {sb:Bs}
set_option maxRecDepth 20000 in
theorem AFa (d:RdX x sv sb)(hsb:sb.length<100000)(h84:leL sb 84 4=11)(a4:Vec 4 1 x4 N (bC U) r)(hN:16≤N)(hN2:N<100000)(w:AN (r+x) h)
  (K:∀ r h,Vec 4 1 x4 N (bC (usd 10 U)) r→AN (r+x) h→PP Q x0 sv x4 x5 h):Xh Q x0 sv x4 x5 (.int .u64 ((1:Nat):Int)) h:=by
 unfold Xh
 refine Ba (fun m u h'=>∃ i r,m+i=10∧u=.int .u64 (i+1:Nat)∧Vec 4 1 x4 N (bC (usd i U)) r∧AN (r+x) h') 10 ⟨0,r,rfl,rfl,a4,w⟩ ?_
 rintro rec m u h' ⟨i,r,hi,rfl,a4,w⟩ hrec
 obtain⟨⟨va,vc,hv⟩,_⟩:=a4.len
 unfold YP
 refine DF (p:=84) (n:=4) d.addR w (by decide) (by decide) (by omega) ?_
 rw[h84,AT]
 refine C3 (fun hc=>?_) (fun hc=>?_)
 ·rw[hv,Aw,DO,CU (by omega),AT,A04 (by omega),Ak,←hv]
  refine DS (u:=.bool true) a4 w (by omega) rfl rfl fun r h a4 w=>?_
  rw[BN (n:=1),CU (by omega)]
  rw[Qe] at a4
  exact hrec (m-1) _ _ ⟨i+1,r,by omega,rfl,a4,w⟩ (by omega)
 ·have:i=10:=by omega
  subst this
  exact K r h' a4 w
def mkU (U:List Bool)(os:List AA):List Bool:=os.foldl (fun u o=>u.set o.X.num true) U
def cntD (os:List AA):Nat:=(os.filter fun o=>decide (kindL o.X.mode=2)).length
theorem AAF {os:List AA}:∀ {U:List Bool},(mkU U os).length=U.length:=by
 induction os with
 | nil=>intro U;rfl
 | cons o os ih=>intro U;exact (ih (U:=U.set o.X.num true)).trans (A89 ..)
set_option maxRecDepth 20000 in
theorem AFs {os:List AA}{cs:List Value}{iv:Value}{r4 r5:Res}(ok:v.OK x)(hN:N=v.ipg+1)(hos:∀ o∈os,1≤o.X.num∧o.X.num≤v.ipg∧o.X.mode<65536)(d:VecX 81 23 iv os.length cs x)(ov:OutV y cs os)(hn:os.length<1000000)(a4:Vec 4 1 x4 N (bC U) r4)(a5:Vec 48 1 x5 1 (nC [0]) r5)(w:AN (v.res+(r4+(r5+(z+x)))) h)
  (K:∀ r4 r5 z h,Vec 4 1 x4 N (bC (mkU U os)) r4→Vec 48 1 x5 1 (nC [cntD os]) r5→AN (v.res+(r4+(r5+(z+x)))) h→Ta Q (Pt v.vb) sv x4 x5 (.int .u64 0) (.int .u64 0) (.int .u64 0) h) :
  Xe Q (Pt v.vb) sv x4 x5 iv (.int .i64 (os.length:Nat)) (.int .i64 ((0:Nat):Int)) h:=by
 have hip:=ok.ipg
 unfold Xe
 refine Ba (fun m u h'=>∃ i r4 r5 z,m=os.length-i∧i≤os.length∧u=.int .i64 (i:Nat)∧Vec 4 1 x4 N (bC (mkU U (os.take i))) r4∧Vec 48 1 x5 1 (nC [cntD (os.take i)]) r5∧AN (v.res+(r4+(r5+(z+x)))) h') os.length ⟨0,r4,r5,z,rfl,A39 _,rfl,a4,a5,w⟩ ?_
 rintro rec m u h' ⟨i,r4,r5,z,rfl,hi,rfl,a4,a5,w⟩ hrec
 unfold YH
 rw[AT]
 refine AX (fun hc=>?_) (fun hc=>?_)
 ·have hil:i<os.length:=by omega
  obtain⟨o,ho⟩:∃ o,os[i]? = some o:=⟨_,A00 hil⟩
  obtain⟨cv,ev,xv,xas,hcs,b,c,dd,f⟩:=ov.get ho
  obtain⟨g1,g2,g3⟩:=hos o (A28 ho)
  obtain⟨ca,cc,hcv⟩:=b.len
  obtain⟨⟨ea,ec,hev⟩,_⟩:=c.len
  obtain⟨⟨xa,xc,hxv⟩,_⟩:=dd.len
  have hone:(o.X.cells cv ev xv).all Value.oneCell'=true:=by rw[hcv,hev,hxv];exact XN.one
  have htk:os.take (i+1)=os.take i++[o]:=by rw[A85,ho];rfl
  refine (d.addR.addR.addR.addR:VecX 81 23 iv os.length cs _).agg w hil ?_
  rw[hcs]
  refine Ah w Cy rfl fun xb h w=>?_
  refine AL w ⟨o.X.cells cv ev xv⟩ (Ar (by rw[XN.size_];exact XN.len)) XN.size_ (by rw[XN.size_];omega) hone fun h w=>?_
  have ff:∀ (o:Nat) (k:Value→Prop),AC o (Pt xb) k=k (.pointer (some ⟨xb,o,none⟩)):=fun o k=>by simp only[go_sem]
  have hU:mkU U (os.take (i+1))=(mkU U (os.take i)).set o.X.num true:=by rw[htk];unfold mkU;rw[B19];rfl
  have hD:cntD (os.take (i+1))=if kindL o.X.mode=2 then cntD (os.take i)+1 else cntD (os.take i):=by
   rw[htk];unfold cntD;rw[B08]
   by_cases hk:kindL o.X.mode=2<;>simp[hk]
  have hcd:cntD (os.take i)≤i:=B28 (B38 _ _) (by simp;omega)
  have f1:(AD .add (.int .i64 (i:Nat)) (.int .i64 1))=fun k=>k (.int .i64 (i+1:Nat)):=funext fun k=>by
   rw[BN (n:=1),Ci (by omega)]
  rw[ff]
  refine AW w XN.g0 ?_
  have k1:∀ P V R4 R5 Z X:Res,P+(V+(R4+(R5+(Z+X))))=R4+(P+(V+(R5+(Z+X)))):=by intros;ac_rfl
  refine DS (u:=.bool true) a4 (w.cast (k1 _ _ _ _ _ _)) (by omega) rfl rfl fun r4 h a4 w=>?_
  rw[Qe,←hU] at a4
  rw[ff]
  refine AW w XN.g1 ?_
  refine E9 _ _ _ (YT g3 ?_)
  rw[Aa]
  refine AX (fun hk=>?_) (fun hk=>?_)
  ·rw[A03 (by omega)] at hD
   rw[ff]
   refine AW w XN.g0 ?_
   have nf:∀ (k:Value→Prop),(AE (Pt v.vb) fun x161=>AC 6 x161 k)=k (.pointer (some ⟨v.vb,6,none⟩)):=fun k=>by simp only[go_sem]
   rw[Ra (n:=1) (by show (1:Int)≤_;omega),CU (show o.X.num-1<18446744073709551616 by omega),nf]
   refine AW w VS.g6 ?_
   rw[QI (show 0<v.ipg by omega),Nat.div_eq_of_lt (show o.X.num-1<v.ipg by omega),CU (show 0<18446744073709551616 by omega)]
   have k2:∀ P V R4 R5 Z X:Res,R4+(P+(V+(R5+(Z+X))))=R5+(P+(V+(R4+(Z+X)))):=by intros;ac_rfl
   have w:=w.cast (k2 _ _ _ _ _ _)
   refine Bu a5 w (HZ (by simp)) ?_
   rw[show ([cntD (os.take i)].getD 0 0)=cntD (os.take i) from rfl,BN (n:=1),CU (show cntD (os.take i)+1<18446744073709551616 by omega)]
   refine DS (u:=.int .u64 (cntD (os.take i)+1:Nat)) a5 w (by omega) rfl rfl fun r5 h a5 w=>?_
   rw[Nh,show [cntD (os.take i)].set 0 (cntD (os.take i)+1)=[cntD (os.take i)+1] from rfl,←hD] at a5
   rw[f1]
   have k4:∀ P V R4 R5 Z X:Res,R5+(P+(V+(R4+(Z+X))))=V+(R4+(R5+((P+Z)+X))):=by intros;ac_rfl
   exact hrec (os.length-(i+1)) _ _ ⟨i+1,r4,r5,_,rfl,hil,rfl,a4,a5,w.cast (k4 _ _ _ _ _ _)⟩ (by omega)
  ·rw[A05 (by omega)] at hD
   rw[f1]
   have k3:∀ P V R4 R5 Z X:Res,R4+(P+(V+(R5+(Z+X))))=V+(R4+(R5+((P+Z)+X))):=by intros;ac_rfl
   rw[←hD] at a5
   exact hrec (os.length-(i+1)) _ _ ⟨i+1,r4,r5,_,rfl,hil,rfl,a4,a5,w.cast (k3 _ _ _ _ _ _)⟩ (by omega)
 ·have:i=os.length:=by omega
  subst this
  rw[A38] at a4 a5
  exact K r4 r5 z h' a4 a5 w
end
end
section
variable {h:H} {k:Value→Prop} {kt Q:Kt} {x y z r A:Res} {v:VS}
attribute [local irreducible] AK Az AQ BB Ae AY AH AM VS.cells XN.cells
theorem AGT {x1:Value}(w:AN (v.res+x) h)(K:Q (.tuple #[]) h):Wv Q (Pt v.vb) x1 (.int .u64 0) h:=by
 have nf:∀ (o:Nat) (k:Value→Prop),(AE (Pt v.vb) fun x161=>AC o x161 k)=k (.pointer (some ⟨v.vb,o,none⟩)):=fun o k=>by simp only[go_sem]
 unfold Wv
 refine Ba (fun m u h'=>h'=h∧((m=1∧u=.int .u64 0)∨(m=0∧u=.int .u64 ((1:Nat):Int)))) 1 ⟨rfl,.inl ⟨rfl,rfl⟩⟩ ?_
 rintro rec m u h' ⟨rfl,hh⟩ hrec
 unfold VQ
 rw[nf]
 refine AW w VS.g4 ?_
 rcases hh with⟨rfl,rfl⟩|⟨rfl,rfl⟩
 ·have c1:(AD .lss (.int .u64 0) (.int .u64 1))=fun k=>k (.bool true):=funext fun k=>by rw[AT];rfl
  have c2:(AD .mul (.int .u64 0) (.int .u64 32768))=fun k=>k (.int .u64 0):=funext fun k=>by rw[Bc];rfl
  have c3:(AD .gtr (.int .u64 0) (.int .u64 0))=fun k=>k (.bool false):=funext fun k=>by rw[Ao];rfl
  have c4:(AD .add (.int .u64 0) (.int .u64 1))=fun k=>k (.int .u64 ((1:Nat):Int)):=funext fun k=>by rw[A0];rfl
  simp only[c1,Ak]
  rw[nf]
  refine AW w VS.g5 ?_
  simp only[c2,c3,SR]
  unfold Oc
  simp only[c4,AU]
  exact hrec 0 _ _ ⟨rfl,.inr ⟨rfl,rfl⟩⟩ (by omega)
 ·have c1:(AD .lss (.int .u64 ((1:Nat):Int)) (.int .u64 1))=fun k=>k (.bool false):=funext fun k=>by rw[AT];rfl
  simp only[c1,AU]
  exact K
end
section
variable {h:H} {k:Value→Prop} {kt Q:Kt} {x y z r A:Res} {v:VS}
attribute [local irreducible] AK Az AQ BB Ae AY AH AM VS.cells XN.cells
theorem Sk {T:TypeId}{v u:Value}{n i:Nat}{kk:IntKind}{vs:List Value}{F:Value→Value→Prop}(d:Vec T 1 v n vs r)(w:AN (r+x) h)(hu:vs[i]? = some u)(K:∀ a,(AB false 1 a h fun v=>v=u)→F a u):AI (.slice 1) v (.int kk (i:Int)) fun a=>AB false 1 a h fun u=>F a u:=by
 have hl:=d.len.2
 have hi:i<vs.length:=(A02.1 hu).1
 cases d with
 | nil=>simp at hi
 | own hn hc=>
  rename_i b c all
  have:(⟨all⟩:Array Value)[i]? = some u:=by
   rw[A41] at hu
   split at hu
   ·simpa using hu
   ·cases hu
  rw[Cg (by omega),A29,AF w,this]
  exact K _ (by rw[AF w,this];exact rfl)
theorem ABQ {a b:Bool}:Bq .bool false false h (.bool a) (.bool b) k=k (.bool (a == b)):=by simp[Bq,GG]
def cntN (p:Nat→Bool)(n:Nat):Nat:=((List.range n).filter p).length
theorem Df (p:Nat→Bool)(n:Nat):cntN p (n+1)=if p n then cntN p n+1 else cntN p n:=by
 unfold cntN
 rw[List.range_succ,B08,A01]
 cases hp:p n<;>simp[hp]
theorem Nu (p:Nat→Bool)(n:Nat):cntN p n≤n:=by
 unfold cntN
 exact B28 (B38 _ _) (by rw[List.length_range];exact A07 _)
def mkB (nb:Nat)(ow:Bs)(i:Nat):Bool:=decide (nb≤i)||decide (ow.getD i 0≠0)
structure MarkOK (I:Bs) (nb ipg:Nat) (ow:Bs) (U:List Bool) (dirs:Nat) (sb:Bs):Prop where
 bb:leL (dscL I) 0 4<nb
 ib:leL (dscL I) 4 4<nb
 blk:∀ i,i<32768→bitL (blkL I (leL (dscL I) 0 4)) i=mkB nb ow i
 ino:∀ i,i<ipg→bitL (blkL I (leL (dscL I) 4 4)) i=U.getD (i+1) false
 fre:∀ i,i<ipg→U.getD (i+1) false=false→leL (rawL I (i+1)) 0 2=0∧leL (rawL I (i+1)) 26 2=0
 g12:leL (dscL I) 12 2=cntN (fun i=>!mkB nb ow i) 32768
 g14:leL (dscL I) 14 2=cntN (fun i=>decide (i<ipg) && !U.getD (i+1) false) 32768
 g16:leL (dscL I) 16 2=dirs
 s12:leL sb 12 4=cntN (fun i=>!mkB nb ow i) 32768
 s344:leL sb 344 4=0
 s16:leL sb 16 4=cntN (fun i=>decide (i<ipg) && !U.getD (i+1) false) 32768
 s84:leL sb 84 4=11
section
variable {N:Nat} {U:List Bool} {x1 x4 x5 x9 x10 x12 x13:Value} {sb bb ib:Bs} {dirs F E:Nat} {r4 r5:Res} {rec2:Value→Value→Value→H→Prop}
set_option maxRecDepth 20000 in
theorem AFb {rec3:Value→Value→Value→H→Prop}{i c1 c2:Nat}(ok:v.OK x)(hN:U.length=v.ipg+1)(hit:itL v.I*4096+v.ipg*256≤v.I.length)(hi:i<32768)(hc2:c2≤i)
  (hib:i<v.ipg→bitL ib i=U.getD (i+1) false) (hlib:4096≤ib.length) (hlib2:ib.length<1000000) (hfr:i<v.ipg→U.getD (i+1) false=false→leL (rawL v.I (i+1)) 0 2=0∧leL (rawL v.I (i+1)) 26 2=0)
  (d2:RdX x x13 ib) (a4:Vec 4 1 x4 (v.ipg+1) (bC U) r4) (w:AN (v.res+(r4+(y+x))) h)
  (K:rec3 (.int .u64 (c1:Nat)) (.int .u64 ((if decide (i<v.ipg) && !U.getD (i+1) false then c2+1 else c2:Nat):Nat)) (.int .u64 (i+1:Nat)) h) :
  Ln Q rec2 rec3 (Pt v.vb) x1 x4 x5 x9 x10 (.int .u64 ((0:Nat):Int)) x12 x13 (.int .u64 (c1:Nat)) (.int .u64 (c2:Nat)) (.int .u64 (i:Nat)) h:=by
 have nf:∀ (o:Nat) (k:Value→Prop),(AE (Pt v.vb) fun x161=>AC o x161 k)=k (.pointer (some ⟨v.vb,o,none⟩)):=fun o k=>by simp only[go_sem]
 have hip:=ok.ipg
 have m1:∀ k:Value→Prop,AD .mul (.int .u64 ((0:Nat):Int)) (.int .u64 (v.ipg:Nat)) k=k (.int .u64 ((0:Nat):Int)):=fun k=>by rw[Qc,A92,CU (by omega)]
 have m2:∀ k:Value→Prop,AD .add (.int .u64 ((0:Nat):Int)) (.int .u64 (i:Nat)) k=k (.int .u64 (i:Nat)):=fun k=>by rw[F2,A29,CU (by omega)]
 have m3:∀ k:Value→Prop,AD .add (.int .u64 (i:Nat)) (.int .u64 1) k=k (.int .u64 (i+1:Nat)):=fun k=>by rw[BN (n:=1),CU (by omega)]
 have m4:∀ k:Value→Prop,AD .add (.int .u64 (c2:Nat)) (.int .u64 1) k=k (.int .u64 (c2+1:Nat)):=fun k=>by rw[BN (n:=1),CU (by omega)]
 unfold Ln
 rw[nf]
 refine AW w VS.g6 ?_
 simp only[m1,m2,m3]
 rw[nf]
 refine AW w VS.g6 ?_
 rw[AT]
 refine AX (fun hc=>?_) (fun hc=>?_)
 ·have hlt:i<v.ipg:=by omega
  rw[A04 hlt,Bool.true_and] at K
  have k1:∀ V R4 X:Res,V+(R4+X)=R4+(V+X):=by intros;ac_rfl
  have w4:=w.cast (k1 _ _ _)
  refine Sk a4 w4 (NF (i:=i+1) (by omega)) fun a ha=>?_
  refine Sh _ _ _ _ (AEz d2.addR.addR.addR w (by omega) (by omega) ?_)
  refine⟨ha,?_⟩
  rw[ABQ,hib hlt,beq_self_eq_true]
  refine Al _ _ _ _ _ _ (Da ?_)
  refine Bu a4 w4 (NF (i:=i+1) (by omega)) ?_
  rw[F1]
  cases hu:U.getD (i+1) false with
  | true=>rw[hu] at K;rw[A91,AU];exact K
  | false=>
   rw[hu] at K
   obtain⟨f1,f2⟩:=hfr hlt hu
   have hrl:(rawL v.I (i+1)).length<1000000:=by unfold rawL;rw[A20];omega
   have k2:∀ V R4 Y X:Res,V+(R4+(Y+X))=V+((R4+Y)+X):=by intros;ac_rfl
   have w5:=w.cast (k2 _ _ _ _)
   have e0:∀ k:Value→Prop,AD .eql (.int .u64 ((0:Nat):Int)) (.int .u64 0) k=k (.bool true):=fun k=>by rw[Aa];rfl
   rw[B44,Ak]
   simp only[m4]
   refine Jj _ _ _ _ (AAg ok (by omega) (by omega) hit w5 fun bv d=>?_)
   refine DF (p:=0) (n:=2) d.addR.addR w5 (by decide) (by decide) hrl ?_
   rw[f1,e0,Cq]
   refine Jj _ _ _ _ (AAg ok (by omega) (by omega) hit w5 fun bv d=>?_)
   refine DF (p:=26) (n:=2) d.addR.addR w5 (by decide) (by decide) hrl ?_
   rw[f2,e0]
   refine Al _ _ _ _ _ _ (Da ?_)
   exact K
 ·rw[A08 (by omega),Bool.false_and] at K
  exact K
set_option maxRecDepth 20000 in
theorem AE9 {dirs:Nat}(ok:v.OK x)(hN:U.length=v.ipg+1)(hit:itL v.I*4096+v.ipg*256≤v.I.length)(mk:MarkOK v.I v.nb v.ipg v.ow U dirs sb)(hlen:v.nb*4096≤v.I.length)
  (d1:RdX x x12 (blkL v.I (leL (dscL v.I) 0 4))) (d2:RdX x x13 (blkL v.I (leL (dscL v.I) 4 4))) (a4:Vec 4 1 x4 (v.ipg+1) (bC U) r4) (a5:Vec 48 1 x5 1 (nC [dirs]) r5) (w:AN (v.res+(r4+(r5+(z+x)))) h)
  (K:rec2 (.int .u64 (cntN (fun i=>!mkB v.nb v.ow i) 32768:Nat)) (.int .u64 (cntN (fun i=>decide (i<v.ipg) && !U.getD (i+1) false) 32768:Nat)) (.int .u64 ((1:Nat):Int)) h) :
  Wh Q rec2 (Pt v.vb) x1 x4 x5 (.int .u64 ((0:Nat):Int)) (.int .u64 ((0:Nat):Int)) (.int .u64 ((0:Nat):Int)) x12 x13 (.int .u64 ((0:Nat):Int)) (.int .u64 ((0:Nat):Int)) (.int .u64 ((0:Nat):Int)) h:=by
 have nf:∀ (o:Nat) (k:Value→Prop),(AE (Pt v.vb) fun x161=>AC o x161 k)=k (.pointer (some ⟨v.vb,o,none⟩)):=fun o k=>by simp only[go_sem]
 have hip:=ok.ipg
 have hnb:=ok.nb
 have how:=ok.ow
 have lb:∀ n,n<v.nb→(blkL v.I n).length=4096:=fun n hn=>by
  have:(n+1)*4096≤v.nb*4096:=A48 _ hn
  unfold blkL;rw[A20,A27];omega
 have lb1:=lb _ mk.bb
 have lb2:=lb _ mk.ib
 unfold Wh
 refine MA (fun m u0 u1 u2 h'=>h'=h∧∃ i,m+i=32768∧u0=.int .u64 (cntN (fun i=>!mkB v.nb v.ow i) i:Nat)∧u1=.int .u64 (cntN (fun i=>decide (i<v.ipg) && !U.getD (i+1) false) i:Nat)∧u2=.int .u64 (i:Nat)) 32768 ⟨rfl,0,rfl,rfl,rfl,rfl⟩ ?_
 rintro rec3 m u0 u1 u2 h' ⟨rfl,i,hi,rfl,rfl,rfl⟩ hrec
 have z0:∀ {op:BinOp},True:=fun {_}=>trivial
 have q1:=Nu (fun i=>!mkB v.nb v.ow i) i
 have q2:=Nu (fun i=>decide (i<v.ipg) && !U.getD (i+1) false) i
 unfold VB
 rw[AT]
 refine AX (fun hc=>?_) (fun hc=>?_)
 ·have hlt:i<32768:=by omega
  have m1:∀ k:Value→Prop,AD .mul (.int .u64 ((0:Nat):Int)) (.int .u64 32768) k=k (.int .u64 ((0:Nat):Int)):=fun k=>by rw[Bc];rfl
  have m2:∀ k:Value→Prop,AD .add (.int .u64 ((0:Nat):Int)) (.int .u64 (i:Nat)) k=k (.int .u64 (i:Nat)):=fun k=>by rw[F2,A29,CU (by omega)]
  have m5:∀ k:Value→Prop,AD .geq (.int .u64 (i:Nat)) (.int .u64 32768) k=k (.bool false):=fun k=>by rw[BD,A08 (by omega)]
  have m6:∀ k:Value→Prop,AD .lss (.int .u64 (i:Nat)) (.int .u64 32768) k=k (.bool true):=fun k=>by rw[AT,A04 (by omega)]
  have j2:∀ c1,c1=cntN (fun i=>!mkB v.nb v.ow i) (i+1)→Ln Q rec2 rec3 (Pt v.vb) x1 x4 x5 (.int .u64 ((0:Nat):Int)) (.int .u64 ((0:Nat):Int)) (.int .u64 ((0:Nat):Int)) x12 x13 (.int .u64 (c1:Nat)) (.int .u64 (cntN (fun i=>decide (i<v.ipg) && !U.getD (i+1) false) i:Nat)) (.int .u64 (i:Nat)) h':=fun c1 hc1=>by
   refine AFb (y:=r5+z) ok hN hit hlt q2 (mk.ino i) (by omega) (by omega) (mk.fre i) d2 a4 (w.cast (by ac_rfl)) ?_
   refine hrec (m-1) _ _ _ _ ⟨rfl,i+1,by omega,by rw[hc1],?_,rfl⟩ (by omega)
   rw[Df]
  have j4:Lo Q rec2 rec3 (Pt v.vb) x1 x4 x5 (.int .u64 ((0:Nat):Int)) (.int .u64 ((0:Nat):Int)) (.int .u64 ((0:Nat):Int)) x12 x13 (.int .u64 (cntN (fun i=>!mkB v.nb v.ow i) i:Nat)) (.int .u64 (cntN (fun i=>decide (i<v.ipg) && !U.getD (i+1) false) i:Nat)) (.int .u64 (i:Nat)) (.int .u64 (i:Nat)) (.bool (mkB v.nb v.ow i)) h':=by
   unfold Lo
   rw[nf]
   refine AW w VS.g5 ?_
   rw[m6,Ak]
   refine Sh _ _ _ _ (AEz d1.addR.addR.addR.addR w (by omega) (by omega) ?_)
   rw[ABQ,mk.blk i hlt,beq_self_eq_true]
   refine Al _ _ _ _ _ _ (Da ?_)
   unfold Tx
   rw[F1]
   have cs:=Df (fun i=>!mkB v.nb v.ow i) i
   cases hm:mkB v.nb v.ow i with
   | true=>rw[hm] at cs;rw[A91,AU];exact j2 _ (by rw[cs];rfl)
   | false=>
    rw[hm] at cs
    rw[B44,Ak,BN (n:=1),CU (by omega)]
    exact j2 _ (by rw[cs];rfl)
  rw[nf]
  refine AW w VS.g5 ?_
  simp only[m1,m2]
  rw[nf]
  refine AW w VS.g5 ?_
  rw[m5,Cr,nf]
  refine AW w VS.g1 ?_
  rw[BD]
  refine J2 (fun hb=>?_) (fun hb=>?_)
  ·have hib:i<v.nb:=by omega
   rw[nf]
   refine AW w VS.g9 ?_
   rw[Cg hib,A29,AF w,G9]
   obtain⟨c,hcc⟩:∃ c,v.ow[i]? = some c:=⟨_,A00 (by omega)⟩
   rw[hcc,A80,Fi]
   have e2:∀ k:Value→Prop,AD .neq (bc c) (.int .u8 0) k=k (.bool (decide (c≠0))):=fun k=>by
    unfold bc;rw[A3]
    congr 2
    apply decide_eq_decide.2
    constructor
    ·intro hh hz;exact hh (by rw[hz];rfl)
    ·intro hh hz;exact hh (A97.1 (by simpa using hz))
   rw[e2]
   have:mkB v.nb v.ow i=decide (c≠0):=by
    unfold mkB
    rw[A08 (by omega),Bool.false_or,A10,hcc];rfl
   rw[←this]
   exact j4
  ·have:mkB v.nb v.ow i=true:=by
    unfold mkB
    rw[A04 (by omega),Bool.true_or]
   rw[this] at j4
   exact j4
 ·have:i=32768:=by omega
  subst this
  have k5:∀ V R4 R5 X:Res,V+(R4+(R5+X))=R5+(V+(R4+X)):=by intros;ac_rfl
  have g5:(.int .u64 ((0:Nat):Int):Value)=.int .u64 ((0:Nat):Int):=rfl
  refine G7 _ _ _ _ _ _ _ (UN (lo:=12) (n:=2) ok.mono.mono.mono (w.cast rfl) (by omega) (by omega) ?_)
  rw[mk.g12,Aa,A04 rfl]
  refine Al _ _ _ _ _ _ (Da ?_)
  refine G7 _ _ _ _ _ _ _ (UN (lo:=14) (n:=2) ok.mono.mono.mono (w.cast rfl) (by omega) (by omega) ?_)
  rw[mk.g14,Aa,A04 rfl]
  refine Al _ _ _ _ _ _ (Da ?_)
  refine Sk a5 (w.cast (k5 _ _ _ _)) (HZ (i:=0) (by simp)) fun a ha=>?_
  refine G7 _ _ _ _ _ _ _ (UN (lo:=16) (n:=2) ok.mono.mono.mono (w.cast rfl) (by omega) (by omega) ?_)
  refine⟨ha,?_⟩
  rw[mk.g16,show ([dirs].getD 0 0)=dirs from rfl,Aa,A04 rfl]
  refine Al _ _ _ _ _ _ (Da ?_)
  rw[F2,A29,CU (by omega),F2,A29,CU (by omega),BN (n:=1),CU (by omega)]
  exact K
end
end
section
variable {h:H} {k:Value→Prop} {kt Q:Kt} {x y z r A:Res} {v:VS}
attribute [local irreducible] AK Az AQ BB Ae AY AH AM VS.cells XN.cells
section
variable {N:Nat} {U:List Bool} {x4 x5 sv:Value} {sb:Bs} {dirs:Nat} {r4 r5:Res}
set_option maxRecDepth 20000 in
theorem AFn (ok:v.OK x)(d:RdX x sv sb)(hsb:sb.length=1024)(hN:U.length=v.ipg+1)(hit:itL v.I*4096+v.ipg*256≤v.I.length)(mk:MarkOK v.I v.nb v.ipg v.ow U dirs sb)
  (a4:Vec 4 1 x4 (v.ipg+1) (bC U) r4) (a5:Vec 48 1 x5 1 (nC [dirs]) r5) (w:AN (v.res+(r4+(r5+(z+x)))) h) (K:Q (.tuple #[]) h) :
  Ta Q (Pt v.vb) sv x4 x5 (.int .u64 0) (.int .u64 0) (.int .u64 0) h:=by
 have nf:∀ (o:Nat) (k:Value→Prop),(AE (Pt v.vb) fun x161=>AC o x161 k)=k (.pointer (some ⟨v.vb,o,none⟩)):=fun o k=>by simp only[go_sem]
 have ka:∀ V R4 R5 Z X:Res,V+(R4+(R5+(Z+X)))=V+((R4+(R5+Z))+X):=by intros;ac_rfl
 have wa:=w.cast (ka _ _ _ _ _)
 unfold Ta
 refine MA (fun m u0 u1 u2 h'=>h'=h∧((m=1∧u0=.int .u64 ((0:Nat):Int)∧u1=.int .u64 ((0:Nat):Int)∧u2=.int .u64 ((0:Nat):Int))∨(m=0∧u0=.int .u64 (cntN (fun i=>!mkB v.nb v.ow i) 32768:Nat)∧u1=.int .u64 (cntN (fun i=>decide (i<v.ipg) && !U.getD (i+1) false) 32768:Nat)∧u2=.int .u64 ((1:Nat):Int)))) 1 ⟨rfl,.inl ⟨rfl,rfl,rfl,rfl⟩⟩ ?_
 rintro rec2 m u0 u1 u2 h' ⟨rfl,hh⟩ hrec
 unfold VO
 rw[nf]
 refine AW w VS.g4 ?_
 rcases hh with⟨rfl,rfl,rfl,rfl⟩|⟨rfl,rfl,rfl,rfl⟩
 ·have c1:∀ k:Value→Prop,AD .lss (.int .u64 ((0:Nat):Int)) (.int .u64 1) k=k (.bool true):=fun k=>by rw[AT];rfl
  rw[c1,Ak]
  refine Su _ _ _ _ (AFM ok.mono (wa.cast (by ac_rfl:_=v.res+((r4+(r5+z))+x))) ?_)
  refine NG _ _ _ _ (ABw ok mk.bb wa fun bv d1=>?_)
  refine Ss _ _ _ _ (AFX ok.mono wa ?_)
  refine NG _ _ _ _ (ABw ok mk.ib wa fun bv2 d2=>?_)
  exact AE9 ok hN hit mk ok.len d1 d2 a4 a5 w (hrec 0 _ _ _ _ ⟨rfl,.inr ⟨rfl,rfl,rfl,rfl⟩⟩ (by omega))
 ·have c1:∀ k:Value→Prop,AD .lss (.int .u64 ((1:Nat):Int)) (.int .u64 1) k=k (.bool false):=fun k=>by rw[AT];rfl
  have q1:=Nu (fun i=>!mkB v.nb v.ow i) 32768
  rw[c1,AU]
  refine DF (p:=12) (n:=4) d.addR.addR wa (by decide) (by decide) (by omega) ?_
  refine DF (p:=344) (n:=4) d.addR.addR wa (by decide) (by decide) (by omega) ?_
  have c7:∀ k:Value→Prop,AD .shl (.int .u64 ((0:Nat):Int)) (.int .u64 32) k=k (.int .u64 ((0:Nat):Int)):=fun k=>by rw[Hm]
  rw[mk.s12,mk.s344,c7,V2 (by omega) (by omega),Nat.or_zero,Aa,A04 rfl]
  refine Al _ _ _ _ _ _ (Da ?_)
  refine DF (p:=16) (n:=4) d.addR.addR wa (by decide) (by decide) (by omega) ?_
  rw[mk.s16,Aa,A04 rfl]
  refine Al _ _ _ _ _ _ (Da ?_)
  exact AGT wa K
theorem s69 {os:List AA}{cs:List Value}(ok:v.OK x)(d:RdX x sv sb)(hsb:sb.length=1024)(hit:itL v.I*4096+v.ipg*256≤v.I.length)
  (hos:∀ o∈os,1≤o.X.num∧o.X.num≤v.ipg∧o.X.mode<65536) (dv:VecX 81 23 v.iv os.length cs x) (ov:OutV y cs os) (hn:os.length<1000000)
  (mk:MarkOK v.I v.nb v.ipg v.ow (mkU (usd 10 (List.replicate (v.ipg+1) false)) os) (cntD os) sb) (w:AN (v.res+x) h) (K:∀ z h,AN (v.res+(z+x)) h→Q (.tuple #[]) h) :
  f69 (Pt v.vb) sv h Q:=by
 have hip:=ok.ipg
 have hi1:=ok.ipg1
 have nf:∀ (o:Nat) (k:Value→Prop),(AE (Pt v.vb) fun x161=>AC o x161 k)=k (.pointer (some ⟨v.vb,o,none⟩)):=fun o k=>by simp only[go_sem]
 have f1:∀ k:Value→Prop,AD .mul (.int .u64 1) (.int .u64 (v.ipg:Nat)) k=k (.int .u64 (v.ipg:Nat)):=fun k=>by
  rw[Bc,Int.one_mul,CU (by omega)]
 have main:∀ (x4 x5:Value) (r4 r5:Res) (h:H),Vec 4 1 x4 (v.ipg+1) (bC (List.replicate (v.ipg+1) false)) r4→Vec 48 1 x5 1 (nC [0]) r5→AN (v.res+(r4+(r5+x))) h→L7 Q (Pt v.vb) sv x4 x5 h:=by
  intro x4 x5 r4 r5 h a4 a5 w
  unfold L7
  have k1:∀ V R4 R5 X:Res,V+(R4+(R5+X))=R4+(V+(R5+X)):=by intros;ac_rfl
  refine AFa (x:=v.res+(r5+x)) d.addR.addR (by omega) mk.s84 a4 (by omega) (by omega) (w.cast (k1 _ _ _ _)) fun r4 h a4 w=>?_
  unfold PP
  rw[nf]
  refine AW w VS.g0 ?_
  obtain⟨⟨va,vc,hv⟩,_⟩:=dv.len
  rw[hv,Aw,←hv]
  have k2:∀ V R4 R5 X:Res,R4+(V+(R5+X))=V+(R4+(R5+(0+X))):=by intros;rw[Res.zero_add];ac_rfl
  refine AFs (z:=0) ok rfl hos dv ov hn a4 a5 (w.cast (k2 _ _ _ _)) fun r4 r5 z h a4 a5 w=>?_
  have hUl:(mkU (usd 10 (List.replicate (v.ipg+1) false)) os).length=v.ipg+1:=by rw[AAF,J0,A09]
  have k3:∀ V R4 R5 Z X:Res,V+(R4+(R5+(Z+X)))=V+((R4+(R5+Z))+X):=by intros;ac_rfl
  exact AFn ok d hsb hUl hit mk a4 a5 w (K _ _ (w.cast (k3 _ _ _ _ _)))
 unfold f69
 rw[nf]
 refine AW w VS.g4 ?_
 rw[nf]
 refine AW w VS.g6 ?_
 rw[f1,BN (n:=1),CU (by omega),nf]
 refine AW w VS.g4 ?_
 have rb:∀ n,bC (List.replicate n false)=List.replicate n (.bool false):=fun n=>by unfold bC;rw[B03]
 have rn:nC [0]=List.replicate 1 (.int .u64 0):=rfl
 have o4:∀ b,Vec 4 1 (.slice (some ⟨b,0,none⟩) (v.ipg+1) (v.ipg+1)) (v.ipg+1) (bC (List.replicate (v.ipg+1) false)) (pts b (.cells ⟨List.replicate (v.ipg+1) (.bool false)⟩ 4 (0,0))):=fun b=>by
  rw[rb];exact .own' (A07 _) (by simp) (by simp)
 have o5:∀ b,Vec 48 1 (.slice (some ⟨b,0,none⟩) 1 1) 1 (nC [0]) (pts b (.cells ⟨List.replicate 1 (.int .u64 0)⟩ 48 (0,0))):=fun b=>by
  rw[rn];exact .own' (A07 _) (by simp) (by simp)
 have k1:∀ B5 B4 V X:Res,B5+(B4+(V+X))=V+(B4+(B5+X)):=by intros;ac_rfl
 have k2:∀ B5 B4 V X:Res,B4+(B5+(V+X))=V+(B4+(B5+X)):=by intros;ac_rfl
 refine And.intro ?_ ?_
 ·refine C4 w Qw rfl (A07 _) (by omega) (by omega) fun b4 h w=>?_
  refine⟨AW w VS.g4 rfl,?_,?_⟩
  ·exact C4 (n:=1) (m:=1) w Cb rfl (A07 _) (by omega) (by omega) fun b5 h w=>main _ _ _ _ _ (o4 b4) (o5 b5) (w.cast (k1 _ _ _ _))
  ·exact C4 (n:=1) (m:=1) w Cb rfl (A07 _) (by omega) (by omega) fun b5 h w=>main _ _ _ _ _ (o4 b4) (o5 b5) (w.cast (k1 _ _ _ _))
 ·refine C4 (n:=1) (m:=1) w Cb rfl (A07 _) (by omega) (by omega) fun b5 h w=>?_
  refine⟨AW w VS.g4 rfl,AW w VS.g6 rfl,?_⟩
  exact C4 w Qw rfl (A07 _) (by omega) (by omega) fun b4 h w=>main _ _ _ _ _ (o4 b4) (o5 b5) (w.cast (k2 _ _ _ _))
end
end
section
variable {h:H} {k:Value→Prop} {kt Q:Kt} {x y z r A:Res} {v:VS}
def vC (img:Value)(nb gs pg ipg ib db:Nat)(ov:Value)(wd:Bool):List Value:=[.slice none 0 0,.int .u64 (nb:Nat),.slice none 0 0,img,.int .u64 (gs:Nat),.int .u64 (pg:Nat),.int .u64 (ipg:Nat),.int .u64 (ib:Nat),.int .u64 (db:Nat),ov,.bool wd]
theorem VS.cells_v {b ob nb ipg:Nat}{iv:Value}{I ow:Bs}:(VS.mk b ob (.slice none 0 0) iv I nb ipg ow).cells=⟨vC iv nb 1 32768 ipg 256 32 (.slice (some ⟨ob,0,none⟩) nb nb) false⟩:=rfl
attribute [local irreducible] AK Az AQ BB Ae AY AH AM VS.cells XN.cells
theorem Yx:AG TP 51=some (.agg ⟨vC (.slice none 0 0) 0 0 0 0 0 0 (.slice none 0 0) false⟩):=by kernel_rfl
theorem WQ:AG TP 5=some (.int .u8 0):=by kernel_rfl
structure SbOK (sb:Bs) (nb ipg:Nat):Prop where
 len:sb.length=1024
 s0:leL sb 0 4=ipg
 s4:leL sb 4 4=nb
 s20:leL sb 20 4=0
 s24:leL sb 24 4=2
 s32:leL sb 32 4=32768
 s40:leL sb 40 4=ipg
 s56:leL sb 56 2=61267
 s58:leL sb 58 2=1
 s76:leL sb 76 4=1
 s84:leL sb 84 4=11
 s88:leL sb 88 2=256
 s92:leL sb 92 4=520
 s96:leL sb 96 4=578∨leL sb 96 4=33346
 s100:leL sb 100 4=4170
 s336:leL sb 336 4=0
structure PH (I:Bs) (nb ipg:Nat) (o0 o':Bs) (S:TS) (os:List AA) (kk:Nat):Prop where
 len:I.length=nb*4096
 nb0:nb≤32768
 nb1:2≤nb
 ipg0:ipg≤32768
 ipg1:16≤ipg
 ipg16:ipg%16=0
 sb:SbOK ((I.drop 1024).take 1024) nb ipg
 grp:Clm (grpL I ipg) (List.replicate nb 0) o0
 walk:WalkOK I nb ipg o0 o' S os kk
 num:∀ o∈os,1≤o.X.num∧o.X.num≤ipg∧o.X.mode<65536
 mark:MarkOK I nb ipg o' (mkU (usd 10 (List.replicate (ipg+1) false)) os) (cntD os) ((I.drop 1024).take 1024)
section
variable {I o0 o':Bs} {S:TS} {os:List AA} {kk nb ipg b:Nat} {iv sv:Value}
set_option maxRecDepth 20000 in
theorem AFz {ev:Value}(g:PH I nb ipg o0 o' S os kk)(d:RdX x iv I)(ds:RdX x sv ((I.drop 1024).take 1024))(w:AN (pts b (.cells ⟨vC iv nb 0 32768 ipg 256 32 ev false⟩ 51 (0,0))+x) h)(hev:ev=.slice none 0 0)
  (K:∀ (v:VS) z y h cs,VecX 81 23 v.iv os.length cs z→OutV z cs os→v.OK (z+x)→v.vb=b→v.I=I→v.ipg=ipg→AN (v.res+(y+(z+x))) h→Q (Pt b) h) :
  Pn Q (Pt b) sv h:=by
 have nf:∀ (o:Nat) (k:Value→Prop),(AE (Pt b) fun x161=>AC o x161 k)=k (.pointer (some ⟨b,o,none⟩)):=fun o k=>by simp only[go_sem]
 have hip:=g.ipg0
 have hnb:=g.nb0
 have hnb1:=g.nb1
 have hi1:=g.ipg1
 have hsl:((I.drop 1024).take 1024).length<1000000:=by rw[g.sb.len];decide
 subst hev
 have cg:∀ (gs:Nat) (ov:Value),(⟨vC iv nb gs 32768 ipg 256 32 ov false⟩:Array Value)[1]? = some (.int .u64 (nb:Nat))∧(⟨vC iv nb gs 32768 ipg 256 32 ov false⟩:Array Value)[2]? = some (.slice none 0 0)∧(⟨vC iv nb gs 32768 ipg 256 32 ov false⟩:Array Value)[4]? = some (.int .u64 (gs:Nat))∧(⟨vC iv nb gs 32768 ipg 256 32 ov false⟩:Array Value)[5]? = some (.int .u64 ((32768:Nat):Int))∧(⟨vC iv nb gs 32768 ipg 256 32 ov false⟩:Array Value)[6]? = some (.int .u64 (ipg:Nat)):=fun gs ov=>⟨rfl,rfl,rfl,rfl,rfl⟩
 have q1:∀ k:Value→Prop,AD .gtr (.int .i64 ((0:Nat):Int)) (.int .i64 0) k=k (.bool false):=fun k=>by rw[Ao];rfl
 have q2:∀ k:Value→Prop,AD .quo (.int .u64 ((nb+32768-1:Nat):Int)) (.int .u64 ((32768:Nat):Int)) k=k (.int .u64 ((1:Nat):Int)):=fun k=>by
  rw[QI (by omega),show (nb+32768-1)/32768=1 by omega,CU (by omega)]
 have q3:∀ k:Value→Prop,AD .mul (.int .u64 ((1:Nat):Int)) (.int .u64 (ipg:Nat)) k=k (.int .u64 (ipg:Nat)):=fun k=>by rw[Qc,B34,CU (by omega)]
 have q4:∀ k:Value→Prop,AD .and (.int .u64 ((1:Nat):Int)) (.int .u64 1) k=k (.int .u64 ((1:Nat):Int)):=fun k=>by
  have:=Qm (k:=k) (a:=1) (b:=1) (by omega) (by decide)
  exact this
 have q5:∀ k:Value→Prop,AD .eql (.int .u64 ((1:Nat):Int)) (.int .u64 1) k=k (.bool true):=fun k=>by rw[Aa];rfl
 unfold Pn
 rw[nf]
 refine AW w (cg 0 _).2.1 ?_
 rw[Aw,q1,AU,nf]
 refine AW w (cg 0 _).1 ?_
 rw[nf]
 refine AW w (cg 0 _).2.2.2.1 ?_
 rw[F2,CU (by omega),Ra (n:=1) (by show (1:Int)≤_;omega),CU (by omega),nf]
 refine AW w (cg 0 _).2.2.2.1 ?_
 rw[q2,nf]
 refine AL w ⟨vC iv nb 1 32768 ipg 256 32 (.slice none 0 0) false⟩ rfl rfl (by show _≤11;omega) rfl fun h w=>?_
 rw[nf]
 refine AW w (cg 1 _).2.2.1 ?_
 rw[nf]
 refine AW w (cg 1 _).2.2.2.2 ?_
 rw[q3]
 refine DF (p:=0) (n:=4) ds.addR w (by decide) (by decide) hsl ⟨AW w (cg 1 _).2.2.1 rfl,AW w (cg 1 _).2.2.2.2 rfl,?_⟩
 rw[g.sb.s0,Aa,A04 rfl]
 refine DF (p:=0) (n:=4) ds.addR w (by decide) (by decide) hsl ⟨AW w (cg 1 _).2.2.1 rfl,AW w (cg 1 _).2.2.2.2 rfl,?_⟩
 refine Al _ _ _ _ _ _ (Da ?_)
 refine DF (p:=58) (n:=2) ds.addR w (by decide) (by decide) hsl ?_
 rw[g.sb.s58,q4,q5]
 refine DF (p:=58) (n:=2) ds.addR w (by decide) (by decide) hsl ?_
 refine Al _ _ _ _ _ _ (Da ?_)
 rw[nf]
 refine AW w (cg 1 _).2.1 ?_
 rw[Aw,q1,AU,nf]
 refine AW w (cg 1 _).1 ?_
 refine C4 w WQ rfl (A07 _) (by omega) (by omega) fun ob h w=>?_
 rw[nf]
 have k1:∀ A B X:Res,A+(B+X)=B+(A+X):=by intros;ac_rfl
 refine AL (w.cast (k1 _ _ _)) ⟨vC iv nb 1 32768 ipg 256 32 (.slice (some ⟨ob,0,none⟩) nb nb) false⟩ rfl rfl (by show _≤11;omega) rfl fun h w=>?_
 let v:VS:=⟨b,ob,.slice none 0 0,iv,I,nb,ipg,List.replicate nb 0⟩
 have hres:pts b (.cells ⟨vC iv nb 1 32768 ipg 256 32 (.slice (some ⟨ob,0,none⟩) nb nb) false⟩ 51 (0,0))+(pts ob (.cells ⟨List.replicate nb (.int .u8 0)⟩ 5 (0,0))+x)=v.res+x:=by
  have:pts ob (.cells ⟨List.replicate nb (.int .u8 0)⟩ 5 (0,0))=buf ob (List.replicate nb 0):=by
   unfold buf bcs;rw[B03];rfl
  rw[this,←Res.assoc]
  show _=pts b (.cells (VS.cells ⟨b,ob,.slice none 0 0,iv,I,nb,ipg,List.replicate nb 0⟩) 51 (0,0))+buf ob (List.replicate nb 0)+x
  rw[VS.cells_v]
 have w:=w.cast hres
 have ok:v.OK x:=⟨d,by show nb*4096≤I.length;rw[g.len];exact A07 _,by show I.length<1099511627776;rw[g.len];omega,hnb,hnb1,A09 ..,hip,hi1,g.ipg16⟩
 refine AEL _ _ _ _ (s67 (v:=v) ok ds g.sb.len g.sb.s92 g.grp w fun h ok w=>?_)
 refine DF (p:=84) (n:=4) ds.addR w (by decide) (by decide) hsl ?_
 rw[g.sb.s84]
 refine AEI _ _ _ _ (s68 (v:=v.own o0) ok rfl g.walk w fun iv2 cs z h dv ov ok w=>?_)
 refine ACu _ _ _ _ (s69 (x:=z+x) (v:=((v.own o0).ino iv2).own o') ok.mono ds.addR g.sb.len g.walk.hit g.num dv.addL ov (by rw[g.walk.len];exact g.walk.nlt) g.mark w fun y h w=>?_)
 exact K _ z y h cs dv ov ok.mono rfl rfl rfl w
theorem PI {inc:Nat}(hi:inc=578∨inc=33346):(∀ k:Value→Prop,AD .and (.int .u64 (inc:Nat)) (.int .u64 128) k=k (.int .u64 ((0:Nat):Int)))∧(∀ k:Value→Prop,AD .andNot (.int .u64 (inc:Nat)) (.int .u64 33474) k=k (.int .u64 ((0:Nat):Int)))∧(∀ k:Value→Prop,AD .and (.int .u64 (inc:Nat)) (.int .u64 2) k=k (.int .u64 ((2:Nat):Int))):=by
 have an:∀ a b:Nat,a<18446744073709551616→b<18446744073709551616→∀ k:Value→Prop,AD .and (.int .u64 (a:Nat)) (.int .u64 (b:Nat)) k=k (.int .u64 (a &&& b:Nat)):=fun a b h1 h2 k=>Nv rfl h1 h2
 have nn:∀ k:Value→Prop,∀ a b:Nat,AD .andNot (.int .u64 (a:Nat)) (.int .u64 (b:Nat)) k=k (.int .u64 (IntKind.u64.wrap ((a%18446744073709551616 &&& (18446744073709551615-b%18446744073709551616):Nat):Int))):=fun k a b=>by
  unfold AD CT
  simp
  exact Iff.rfl
 rcases hi with rfl|rfl
 ·exact⟨fun k=>an 578 128 (by decide) (by decide) k,fun k=>nn k 578 33474,fun k=>an 578 2 (by decide) (by decide) k⟩
 ·exact⟨fun k=>an 33346 128 (by decide) (by decide) k,fun k=>nn k 33346 33474,fun k=>an 33346 2 (by decide) (by decide) k⟩
set_option maxRecDepth 20000 in
theorem AGc {inc:Nat}(g:PH I nb ipg o0 o' S os kk)(d:RdX x iv I)(ds:RdX x sv ((I.drop 1024).take 1024))(hinc:inc=578∨inc=33346)(w:AN (pts b (.cells ⟨vC iv nb 0 32768 ipg 256 32 (.slice none 0 0) false⟩ 51 (0,0))+x) h)
  (K:∀ (v:VS) z y h cs,VecX 81 23 v.iv os.length cs z→OutV z cs os→v.OK (z+x)→v.vb=b→v.I=I→v.ipg=ipg→AN (v.res+(y+(z+x))) h→Q (Pt b) h) :
  N8 Q iv (Pt b) sv (.int .u64 (inc:Nat)) (.int .u64 ((4170:Nat):Int)) h:=by
 have nf:∀ (o:Nat) (k:Value→Prop),(AE (Pt b) fun x161=>AC o x161 k)=k (.pointer (some ⟨b,o,none⟩)):=fun o k=>by simp only[go_sem]
 have hip:=g.ipg0
 have hnb:=g.nb0
 have hnb1:=g.nb1
 have hi1:=g.ipg1
 have hlen:=g.len
 have hsl:((I.drop 1024).take 1024).length<1000000:=by rw[g.sb.len];decide
 obtain⟨_,b2,b3⟩:=PI hinc
 have q1:∀ k:Value→Prop,AD .neq (.int .u64 ((2:Nat):Int)) (.int .u64 0) k=k (.bool true):=fun k=>by rw[A3];rfl
 have q2:∀ k:Value→Prop,AD .and (.int .u64 ((4170:Nat):Int)) (.int .u64 1040) k=k (.int .u64 ((0:Nat):Int)):=fun k=>Qm (a:=4170) (b:=1040) (by decide) (by decide)
 have q3:∀ k:Value→Prop,AD .and (.int .u64 ((256:Nat):Int)) (.int .u64 ((255:Nat):Int)) k=k (.int .u64 ((0:Nat):Int)):=fun k=>Nv (a:=256) (b:=255) rfl (by decide) (by decide)
 have q4:∀ k:Value→Prop,AD .sub (.int .u64 ((256:Nat):Int)) (.int .u64 1) k=k (.int .u64 ((255:Nat):Int)):=fun k=>by rw[Bv];rfl
 have c1:(⟨vC iv nb 0 32768 ipg 256 32 (.slice none 0 0) false⟩:Array Value)[1]? = some (.int .u64 (nb:Nat)):=rfl
 have c5:(⟨vC iv nb 0 32768 ipg 256 32 (.slice none 0 0) false⟩:Array Value)[5]? = some (.int .u64 ((32768:Nat):Int)):=rfl
 have c6:(⟨vC iv nb 0 32768 ipg 256 32 (.slice none 0 0) false⟩:Array Value)[6]? = some (.int .u64 (ipg:Nat)):=rfl
 have c7:(⟨vC iv nb 0 32768 ipg 256 32 (.slice none 0 0) false⟩:Array Value)[7]? = some (.int .u64 ((256:Nat):Int)):=rfl
 have c8:(⟨vC iv nb 0 32768 ipg 256 32 (.slice none 0 0) false⟩:Array Value)[8]? = some (.int .u64 ((32:Nat):Int)):=rfl
 unfold N8
 refine DF (p:=76) (n:=4) ds.addR w (by decide) (by decide) hsl ?_
 rw[g.sb.s76,Aa,A04 (by decide)]
 refine DF (p:=76) (n:=4) ds.addR w (by decide) (by decide) hsl ?_
 refine Al _ _ _ _ _ _ (Da ?_)
 refine DF (p:=24) (n:=4) ds.addR w (by decide) (by decide) hsl ?_
 rw[g.sb.s24,Aa,A04 (by decide)]
 refine DF (p:=24) (n:=4) ds.addR w (by decide) (by decide) hsl ?_
 refine Al _ _ _ _ _ _ (Da ?_)
 refine DF (p:=20) (n:=4) ds.addR w (by decide) (by decide) hsl ?_
 rw[g.sb.s20,Aa,A04 (by decide)]
 refine DF (p:=20) (n:=4) ds.addR w (by decide) (by decide) hsl ?_
 refine Al _ _ _ _ _ _ (Da ?_)
 rw[b2,Aa,A04 (by decide),Cq,b3,q1]
 refine Al _ _ _ _ _ _ (Da ?_)
 unfold So
 rw[q2,Aa,A04 (by decide)]
 refine Al _ _ _ _ _ _ (Da ?_)
 rw[nf]
 refine AW w c5 ?_
 rw[BD,A04 (by omega),Cq,nf]
 refine AW w c5 ?_
 rw[BW,A04 (by omega),nf]
 refine AW w c5 ?_
 refine Al _ _ _ _ _ _ (Da ?_)
 unfold TK
 rw[nf]
 refine AW w c6 ?_
 rw[BD,A04 (by omega),Cq,nf]
 refine AW w c6 ?_
 rw[BW,A04 (by omega),nf]
 refine AW w c6 ?_
 refine Al _ _ _ _ _ _ (Da ?_)
 unfold TW
 rw[nf]
 refine AW w c7 ?_
 rw[BD,A04 (by omega),Cq,nf]
 refine AW w c7 ?_
 rw[BW,A04 (by omega),Cq,nf]
 refine AW w c7 ?_
 rw[nf]
 refine AW w c7 ?_
 rw[q4,q3,Aa,A04 (by decide),nf]
 refine AW w c7 ?_
 refine Al _ _ _ _ _ _ (Da ?_)
 unfold OC
 rw[nf]
 refine AW w c8 ?_
 rw[BD,A04 (by omega),Cq,nf]
 refine AW w c8 ?_
 rw[BW,A04 (by omega),nf]
 refine AW w c8 ?_
 refine Al _ _ _ _ _ _ (Da ?_)
 unfold TU
 rw[nf]
 refine AW w c1 ?_
 rw[BD,A04 (by omega),Cq,nf]
 refine AW w c1 ?_
 obtain⟨a,c,hv⟩:=d.len
 rw[hv,Aw,DO,CU (by omega),Rb (n:=4096) (by decide),CU (by omega),BW,A04 (by omega),nf]
 refine AW w c1 ?_
 refine Al _ _ _ _ _ _ (Da ?_)
 exact AFz g d ds w rfl K
set_option maxRecDepth 20000 in
theorem s25 (g:PH I nb ipg o0 o' S os kk)(d:RdX x iv I)(w:AN x h)
  (K:∀ (v:VS) z y h cs,VecX 81 23 v.iv os.length cs z→OutV z cs os→v.OK (z+x)→v.I=I→v.ipg=ipg→AN (v.res+(y+(z+x))) h→Q (Pt v.vb) h):f25 iv h Q:=by
 have hnb1:=g.nb1
 have hnb:=g.nb0
 have hlen:=g.len
 have hsl:((I.drop 1024).take 1024).length<1000000:=by rw[g.sb.len];decide
 unfold f25
 obtain⟨a,c,hv⟩:=d.len
 refine Au Yx rfl (rs:=vC iv 0 0 0 0 0 0 (.slice none 0 0) false) (by rw[hv];rfl) (BJ w fun b h w=>?_)
 have w:AN (pts b (.cells ⟨vC iv 0 0 0 0 0 0 (.slice none 0 0) false⟩ 51 (0,0))+x) h:=w
 unfold AH
 refine⟨_,#[],WQ,by decide,rfl,fun b2 h' e hb ho=>?_⟩
 have w:=w.ext e
 show Ab iv _
 rw[hv,Aw,←hv,BD,A04 (by omega),Ak]
 refine d.slice (i:=1024) (j:=2048) Ec Ec (by omega) (by omega) fun sv ds=>?_
 have e1:(I.take 2048).drop 1024=(I.drop 1024).take 1024:=by rw[A49]
 rw[e1] at ds
 have nf:∀ (o:Nat) (k:Value→Prop),(AE (Pt b) fun x161=>AC o x161 k)=k (.pointer (some ⟨b,o,none⟩)):=fun o k=>by simp only[go_sem]
 have c7:∀ k:Value→Prop,AD .shl (.int .u64 ((0:Nat):Int)) (.int .u64 32) k=k (.int .u64 ((0:Nat):Int)):=fun k=>by rw[Hm]
 have q1:∀ k:Value→Prop,AD .neq (.int .u64 ((0:Nat):Int)) (.int .u64 0) k=k (.bool false):=fun k=>by rw[A3];rfl
 unfold Tj
 refine DF (p:=56) (n:=2) ds.addR w (by decide) (by decide) hsl ?_
 rw[g.sb.s56,Aa,A04 (by decide)]
 refine DF (p:=56) (n:=2) ds.addR w (by decide) (by decide) hsl ?_
 refine Al _ _ _ _ _ _ (Da ?_)
 refine DF (p:=4) (n:=4) ds.addR w (by decide) (by decide) hsl ?_
 refine DF (p:=336) (n:=4) ds.addR w (by decide) (by decide) hsl ?_
 rw[g.sb.s4,g.sb.s336,c7,V2 (by omega) (by omega),Nat.or_zero,nf]
 refine AL w ⟨vC iv nb 0 0 0 0 0 (.slice none 0 0) false⟩ rfl rfl (by show _≤11;omega) rfl fun h w=>?_
 refine DF (p:=32) (n:=4) ds.addR w (by decide) (by decide) hsl ?_
 refine DF (p:=40) (n:=4) ds.addR w (by decide) (by decide) hsl ?_
 rw[g.sb.s32,g.sb.s40,nf]
 refine AL w ⟨vC iv nb 0 32768 0 0 0 (.slice none 0 0) false⟩ rfl rfl (by show _≤11;omega) rfl fun h w=>?_
 rw[nf]
 refine AL w ⟨vC iv nb 0 32768 ipg 0 0 (.slice none 0 0) false⟩ rfl rfl (by show _≤11;omega) rfl fun h w=>?_
 refine DF (p:=88) (n:=2) ds.addR w (by decide) (by decide) hsl ?_
 rw[g.sb.s88,nf]
 refine AL w ⟨vC iv nb 0 32768 ipg 256 0 (.slice none 0 0) false⟩ rfl rfl (by show _≤11;omega) rfl fun h w=>?_
 rw[nf]
 refine AL w ⟨vC iv nb 0 32768 ipg 256 32 (.slice none 0 0) false⟩ rfl rfl (by show _≤11;omega) rfl fun h w=>?_
 refine DF (p:=96) (n:=4) ds.addR w (by decide) (by decide) hsl ?_
 refine DF (p:=100) (n:=4) ds.addR w (by decide) (by decide) hsl ?_
 rw[(PI g.sb.s96).1,q1,nf,g.sb.s100]
 refine AL w ⟨vC iv nb 0 32768 ipg 256 32 (.slice none 0 0) false⟩ rfl rfl (by show _≤11;omega) rfl fun h w=>?_
 rw[nf]
 refine AW w (show (⟨vC iv nb 0 32768 ipg 256 32 (.slice none 0 0) false⟩:Array Value)[10]? = some (.bool false) from rfl) ?_
 rw[AU]
 refine AGc g d ds g.sb.s96 w fun v z y h cs dv ov ok hb hI hip w=>?_
 exact hb▸K v z y h cs dv ov ok hI hip w
end
end
end Go.Proofs.YtollddkkdgoonaaGreatDoor
