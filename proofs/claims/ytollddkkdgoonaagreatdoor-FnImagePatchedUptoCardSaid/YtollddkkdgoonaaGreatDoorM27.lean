/- FnImagePatched answers true and leaves its arguments as they read, where what it reads is of bulk at most 1048576: the card. No condition but the row's own. -/
import Derived.Test.YtollddkkdgoonaaGreatDoorM26
namespace Go.Proofs.YtollddkkdgoonaaGreatDoor
open Go
set_option linter.unusedVariables false
set_option linter.unusedSimpArgs false
def YC (e:Bs):Prop:=e≠[]∧e≠[46]∧e≠[46,46]∧(47:UInt8)∉e
theorem I9:∀ (e:Bs),(47:UInt8)∉e→elems e=[e]
 | [],_=>rfl
 | b::l,h=>by
  have hb:b≠47:=fun e=>h (by rw[e];exact List.mem_cons_self ..)
  rw[elems,if_neg hb,I9 l fun hm=>h (List.mem_cons_of_mem _ hm)]
theorem L8:∀ (e r:Bs),(47:UInt8)∉e→elems (e++47::r)=e::elems r
 | [],r,_=>by rw[List.nil_append,elems,if_pos rfl]
 | b::l,r,h=>by
  have hb:b≠47:=fun e=>h (by rw[e];exact List.mem_cons_self ..)
  rw[List.cons_append,elems,if_neg hb,L8 l r fun hm=>h (List.mem_cons_of_mem _ hm)]
theorem KM:∀ (l:List Bs),l≠[]→(∀ e∈l,(47:UInt8)∉e)→elems (joinL l)=l
 | [],h,_=>absurd rfl h
 | [e],_,h=>I9 e (h e (List.mem_cons_self ..))
 | e::f::r,_,h=>by
  rw[joinL,L8 e _ (h e (List.mem_cons_self ..)),KM (f::r) (by simp) fun x hx=>h x (List.mem_cons_of_mem _ hx)]
theorem PC:∀ (l st:List Bs),(∀ e∈l,YC e)→l.foldl meet st=st++l
 | [],st,_=>(List.append_nil _).symm
 | e::l,st,h=>by
  obtain⟨h1,h2,h3,_⟩:=h e (List.mem_cons_self ..)
  have:meet st e=st++[e]:=by
   unfold meet
   rw[if_neg (by simp[h1,h2]),if_neg h3]
  rw[List.foldl_cons,this,PC l _ fun x hx=>h x (List.mem_cons_of_mem _ hx),List.append_assoc];rfl
theorem Rv {l:List Bs}(h:∀ e∈l,YC e):cleanR (joinL l)=l∧cleanR (47::joinL l)=l:=by
 have e0:∀ p:Bs,cleanR (47::p)=cleanR p:=fun p=>by
  unfold cleanR
  rw[elems,if_pos rfl,List.foldl_cons]
  have:meet [] []=[]:=if_pos (.inl rfl)
  rw[this]
 refine⟨?_,(e0 _).trans ?_⟩
 all_goals
  cases hl:l with
  | nil=>rfl
  | cons a r=>
   rw[←hl]
   unfold cleanR
   rw[KM l (by rw[hl];simp) fun e he=>(h e he).2.2.2,PC l [] h,List.nil_append]
def AFf (l:Bs):Nat:=l.foldl (fun a c=>a*10+(c.toNat-48)) 0
theorem OR (n:Nat):AFf (Cn n)=n:=by
 induction n using Nat.strongRecOn with
 | ind n ih=>
  by_cases hc:n<10
  ·rw[IC hc]
   show 0*10+((UInt8.ofNat (48+n)).toNat-48)=n
   rw[UInt8.toNat_ofNat']
   omega
  ·rw[Hn hc]
   unfold AFf at ih ⊢
   rw[List.foldl_append,ih (n/10) (by omega)]
   show n/10*10+((UInt8.ofNat (48+n%10)).toNat-48)=n
   rw[UInt8.toNat_ofNat']
   omega
theorem WV {a b:Nat}(h:Cn a=Cn b):a=b:=by rw[←OR a,h,OR]
theorem Vj (n:Nat):Cn n≠[]∧∀ c∈Cn n,48≤c.toNat∧c.toNat<58:=by
 induction n using Nat.strongRecOn with
 | ind n ih=>
  by_cases hc:n<10
  ·rw[IC hc]
   refine⟨by simp,fun c h=>?_⟩
   rw[List.mem_singleton] at h
   subst h
   rw[UInt8.toNat_ofNat']
   omega
  ·rw[Hn hc]
   refine⟨by simp,fun c h=>?_⟩
   rcases List.mem_append.1 h with h1|h1
   ·exact (ih (n/10) (by omega)).2 c h1
   ·rw[List.mem_singleton] at h1
    subst h1
    rw[UInt8.toNat_ofNat']
    omega
theorem Ry (n:Nat):YC (Cn n)∧Cn n≠lostN:=by
 obtain⟨h1,h2⟩:=Vj n
 have hno:∀ c:UInt8,c.toNat<48∨58≤c.toNat→c∉Cn n:=fun c hc hm=>by
  have:=h2 c hm;omega
 refine⟨⟨h1,fun e=>hno 46 (by decide) (by rw[e];decide),fun e=>hno 46 (by decide) (by rw[e];decide),hno 47 (by decide)⟩,fun e=>hno 108 (by decide) (by rw[e];decide)⟩
def Me (sz m:Nat):FL:=⟨[],sz,m,0,0,t0,t0,t0,t0,0,0⟩
theorem Th:t0.ok:=⟨by decide,by decide⟩
def Pm (i:Nat)(b:Bs):It:=⟨2,Cn i,Me b.length 0,b,47::Cn i,true⟩
def Ca (fs:List Bs):Nat→List It
 | 0=>[]
 | n+1=>Ca fs n++[Pm n (fs.getD n [])]
theorem C6 (fs:List Bs):∀ n,(Ca fs n).length=n
 | 0=>rfl
 | n+1=>by rw[Ca,List.length_append,C6 fs n];rfl
theorem Fx (fs:List Bs):∀ n j,j<n→(Ca fs n)[j]? = some (Pm j (fs.getD j []))
 | n+1,j,h=>by
  rw[Ca]
  by_cases hj:j<n
  ·rw[List.getElem?_append_left (by rw[C6];exact hj)]
   exact Fx fs n j hj
  ·have:j=n:=by omega
   subst this
   rw[List.getElem?_append_right (by rw[C6];exact Nat.le_refl _),C6,Nat.sub_self];rfl
theorem Fw {fs:List Bs}{n:Nat}{it:It}(h:it∈Ca fs n):∃ j,j<n∧it=Pm j (fs.getD j []):=by
 obtain⟨j,hj,e⟩:=List.getElem_of_mem h
 rw[C6] at hj
 have:=Fx fs n j hj
 rw[List.getElem?_eq_getElem (by rw[C6];exact hj),Option.some.injEq] at this
 exact⟨j,hj,e.symm.trans this⟩
theorem Nl (i:Nat)(b:Bs):(Pm i b).kd=32768:=by show kindB (modeK 0)=32768;decide
theorem WC {fs:List Bs}(hb:∀ b∈fs,b.length≤2000000):∀ n,n≤1000→A7 (Ca fs n)
 | 0,_=>fun j it h=>by simp[Ca] at h
 | n+1,hn=>by
  rw[Ca]
  refine (WC hb n (by omega)).snoc ?_
  obtain⟨⟨p1,p2,p3,p4⟩,p5⟩:=Ry n
  have hl:=GM 4 n (by omega)
  have hlen:(fs.getD n []).length≤2000000:=by
   rw[List.getD_eq_getElem?_getD]
   cases hg:fs[n]? with
   | none=>simp
   | some b=>exact hb b (List.mem_of_getElem? hg)
  refine⟨⟨[],.root,?_⟩,?_,?_,?_,p4,⟨p2,p3⟩,?_,fun _=>p5,?_,?_,hlen,fun _=>rfl⟩
  ·have:=(Rv (l:=[Cn n]) (by intro e he;rw[List.mem_singleton] at he;subst he;exact⟨p1,p2,p3,p4⟩)).2
   exact this
  ·show (47::Cn n).length≤100000
   rw[List.length_cons];omega
  ·show 1≤(Cn n).length
   exact List.length_pos_iff.2 p1
  ·show (Cn n).length≤255
   omega
  ·intro x hx _ he
   obtain⟨j,hj,rfl⟩:=Fw hx
   have:j=n:=WV he
   omega
  ·exact⟨by show 0<65536;decide,.inl (Nl n _),Th,Th,Th,Th,by show (fs.getD n []).length≤_;omega⟩
  ·rw[Nl,if_pos rfl];rfl
theorem AEy (fs:List Bs)(n:Nat):∀ it∈Ca fs n,Y6 it:=fun it h=>by
 obtain⟨j,_,rfl⟩:=Fw h
 exact⟨by show 0<_;decide,by show 0<_;decide,by show 0<_;decide,by show 0<_;decide⟩
theorem Sd (fs:List Bs):∀ n,n≤fs.length→EW (Ca fs n)=((fs.take n).map fun b=>b.length+4095).sum
 | 0,_=>rfl
 | n+1,hn=>by
  have ih:=Sd fs n (by omega)
  have hg:fs[n]? = some fs[n]:=List.getElem?_eq_getElem (by omega)
  unfold EW at ih ⊢
  rw[Ca,List.map_append,List.sum_append,ih,List.take_add_one,hg,List.map_append,List.sum_append]
  congr 1
  rw[List.getD_eq_getElem?_getD,hg]
  rfl
theorem Ur (fs:List Bs)(n:Nat){it:It}(h:it∈Ca fs n):it.isD=false:=by
 obtain⟨j,_,rfl⟩:=Fw h
 unfold It.isD
 rw[Nl];rfl
section
variable {h:H} {k:Value→Prop} {kt Q:Kt} {x y z r:Res}
attribute [local irreducible] AK Az AQ BB Ae AY AH AM
theorem Ki:∀ (vs A B:List Value),vs.length≤B.length→GE (A++B) A.length vs=A++vs++B.drop vs.length
 | [],A,B,_=>by simp[GE]
 | v::vs,A,[],h=>by simp at h
 | v::vs,A,b::B,h=>by
  have e1:(A++b::B).set A.length v=(A++[v])++B:=by
   rw[List.set_append,if_neg (by omega),Nat.sub_self];simp
  have:=Ki vs (A++[v]) B (by simp at h;omega)
  rw[List.length_append,List.length_singleton] at this
  rw[GE,e1,this]
  simp
section
variable {T:TypeId} {zt:Option Value} {zv:Value} {sz:Nat} {e1 e2:List Value}
theorem Qi (w:AN x h)(hz:zt=some zv)(hs:0<sz)(hs2:sz≤1000)(h1:e1.length=sz)(h2:e2.length=sz)(K:∀ v r h,RdV sz v 2 (e1++e2) r→AN (r+x) h→kt v h):AH (.arr sz) T zt sz 2 [(0,.agg ⟨e1⟩),(1,.agg ⟨e2⟩)] h kt:=by
 unfold AH
 refine⟨zv,⟨e1++e2⟩,hz,by omega,?_,fun b h' ex hb' ho'=>K _ _ h' (.inr ⟨b,0,2,e1++e2,T,_,0,rfl,(Res.add_zero _).symm,by rw[List.length_append];omega,by rw[List.drop_zero,List.take_of_length_le (by rw[List.length_append];omega)],Nat.le_refl _⟩) (w.new ex hb' ho')⟩
 rw[if_neg (by omega)]
 have hl:(Ax zv.cells (2*sz)).toList.length=2*sz:=by unfold Ax;simp
 refine Es _ (Ax zv.cells (2*sz)).toList _ ?_
 unfold DC
 simp only[Br,Nat.zero_mul,Nat.zero_add]
 rw[if_neg (by rw[hl];show ¬(e1.length≠sz∨_);omega)]
 have:=Ki e1 [] (Ax zv.cells (2*sz)).toList (by omega)
 rw[List.nil_append,List.length_nil,List.nil_append] at this
 show DC _ (GE (Ax zv.cells (2*sz)).toList 0 e1) _=_
 rw[this]
 unfold DC
 simp only[Br,Nat.one_mul]
 rw[if_neg (by rw[List.length_append,List.length_drop,hl];show ¬(e2.length≠sz∨_);omega)]
 have t2:=Ki e2 e1 ((Ax zv.cells (2*sz)).toList.drop e1.length) (by rw[List.length_drop];omega)
 rw[h1] at t2
 unfold DC
 show some (GE _ sz e2)=_
 rw[h1,t2,List.drop_of_length_le (by rw[List.length_drop];omega),List.append_nil]
end
theorem AHp {its:List It}{v:VS}{os:List AA}{cs:List Value}(hio:A7 its)(hn:its.length≤2000)(p:To its os v.ipg)(ok:v.OK x)(d:VecX 81 23 v.iv os.length cs x)(ov:OutV x cs os)(hnum:∀ o∈os,1≤o.X.num∧o.X.num≤v.ipg∧o.X.mode<65536)(w:AN (v.res+x) h)
  (K:∀ nsv ns ts ix y h,ABG its ts ix→RdV 18 nsv ts.length ns y→TreeV (y+(v.res+x)) ns ts→(∀ t∈ts,t.X.mode<65536∧t.ks.length<1000000000)→AN (y+(v.res+x)) h→Q (.agg ⟨[nsv]⟩) h):f14 (Pt v.vb) h Q:=by
 obtain⟨io,R,hos,hp,hf,hipg⟩:=id p
 have hfo:∀ o∈os,∃ c,c∈VV its∧IoX its c o:=fun o ho=>by
  rw[hos] at ho
  obtain⟨c,hc,rfl⟩:=List.mem_map.1 ho
  exact⟨c,hp.mem_iff.1 hc,hf c (hp.mem_iff.1 hc)⟩
 have hE:∀ o∈os,o.l=[]∧o.E.length<10000000∧∀ e∈o.E,e.2.1<4294967296:=fun o ho=>by
  obtain⟨c,hc,f⟩:=hfo o ho
  refine⟨f.l0,?_⟩
  have hcb:c<12+2000:=by rcases BE.1 hc with h|⟨_,h⟩<;>omega
  cases hd:dirB its c with
  | false=>rw[f.nodir hd];exact⟨by show 0<_;decide,fun e he=>absurd he (by simp)⟩
  | true=>
   obtain⟨_,kd,e⟩:=f.dir hd
   have:=Hq its c
   rw[e]
   refine⟨by simp;omega,fun e he=>?_⟩
   simp only[List.mem_cons,List.mem_map] at he
   rcases he with rfl|rfl|⟨e,he,rfl⟩
   ·show c<_;omega
   ·show parOf its c<_
    have:=Ht hio (c:=c) (by rcases BE.1 hc with h|⟨h,_⟩<;>omega)
    omega
   ·obtain⟨a1,a2,a3,a4,a5⟩:=DT hio he
    show e.2<_;omega
 have hlos:os.length=its.length+2:=by
  rw[hos,List.length_map,hp.length_eq];unfold VV;simp
 refine s14 ok d ov (by omega) (fun o ho=>⟨(hnum o ho).2.2,hE o ho⟩) (fun o ho=>(hnum o ho).2.1) w fun nsv ns y h d tv w=>?_
 refine K nsv ns _ _ y h (AET hio p) (by rw[List.length_map];exact d) tv (fun t ht=>?_) w
 obtain⟨o,ho,rfl⟩:=List.mem_map.1 ht
 refine⟨(hnum o ho).2.2,?_⟩
 have:=(hE o ho).2.1
 have:∀ (E:List EN) (ks:List (Bs×Nat)),(E.foldl (Bi (v.ipg+1) (FE v.ipg os)) ks).length≤ks.length+E.length:=by
  intro E
  induction E with
  | nil=>intro ks;exact Nat.le_refl _
  | cons e E ih=>
   intro ks
   have h1:=ih (Bi (v.ipg+1) (FE v.ipg os) ks e)
   have h2:=MY (v.ipg+1) (FE v.ipg os) ks e
   rw[List.foldl_cons,List.length_cons];omega
 have:=this o.E []
 show (o.E.foldl _ []).length<_
 simp at this
 omega
theorem ADo:AG TP 28=some (.agg ⟨FL0.cells (.slice none 0 0)⟩):=by kernel_rfl
end
section
variable {h:H} {k:Value→Prop} {kt Q:Kt} {x y z r:Res}
attribute [local irreducible] TN.cells XN.cells VS.cells Op1.cells
attribute [local irreducible] AK Az AQ BB Ae AY AH AM
section
variable {fv:Value} {vs:List Value} {fs:List Bs}
theorem AIY {iv:Value}{cs:List Value}{os:List AA}{b13:Nat}{nsv:Value}{n18:Nat}{ns:List Value}(df:RdV 1 fv fs.length vs x)(ff:Na x vs fs)(hl:fs.length≤60)
  (d:VecX 81 23 iv os.length cs x) (ov:OutV x cs os) (hos:∀ o∈os,o.X.num<12∨∃ j,o.X.num=12+j∧fs[j]? = some o.C) (hn:os.length<1000000) (dn:RdV 18 nsv n18 ns x) (hn18:n18=fs.length+2)
  (w:AN (pts b13 (.cells ⟨[nsv]⟩ 40 (0,0))+x) h) (K:∀ y h,AN (y+x) h→Q (.bool true) h):ACt Q fv (Pt b13) iv (.int .i64 (os.length:Nat)) (.int .i64 0) h:=by
 have fp:∀ (b o:Nat) (k:Value→Prop),AC o (Pt b) k=k (.pointer (some ⟨b,o,none⟩)):=fun b o k=>by simp only[go_sem]
 obtain⟨⟨va,vc,hv⟩,_⟩:=df.len
 obtain⟨⟨na,nc,hnv⟩,_⟩:=dn.len
 unfold ACt
 refine Ba (fun mm u h'=>∃ i y,mm+i=os.length∧u=.int .i64 (i:Nat)∧AN (pts b13 (.cells ⟨[nsv]⟩ 40 (0,0))+(y+x)) h') os.length ⟨0,0,rfl,rfl,w.cast (by rw[Res.zero_add])⟩ ?_
 rintro rec mm u h' ⟨i,y,hi,rfl,w⟩ hrec
 unfold ACf
 rw[AT]
 refine AX (fun hc=>?_) (fun hc=>?_)
 ·have hil:i<os.length:=by omega
  obtain⟨o,ho⟩:∃ o,os[i]? = some o:=⟨_,List.getElem?_eq_getElem hil⟩
  obtain⟨cv,ev,xv,xas,hcs,b,c,dd,f⟩:=ov.get ho
  obtain⟨ca,cc,hcv⟩:=b.len
  obtain⟨⟨ea,ec,hev⟩,_⟩:=c.len
  obtain⟨⟨xa,xc,hxv⟩,_⟩:=dd.len
  have hone:(o.X.cells cv ev xv).all Value.oneCell'=true:=by rw[hcv,hev,hxv];exact XN.one
  refine (d.addR.addR:VecX 81 23 iv os.length cs _).agg w hil ?_
  rw[hcs]
  refine Ah w Cy rfl fun b8 h w=>?_
  refine AL w ⟨o.X.cells cv ev xv⟩ (Ar (by rw[XN.size_];exact XN.len)) XN.size_ (by rw[XN.size_];omega) hone fun h w=>?_
  have w0:=w
  have k1:∀ B8 B13 Y X:Res,B8+(B13+(Y+X))=B13+((B8+Y)+X):=by intros;ac_rfl
  have w:=w.cast (k1 _ _ _ _)
  have go:rec (.int .i64 (i+1:Nat)) h:=hrec (mm-1) _ _ ⟨i+1,_,by omega,rfl,w⟩ (by omega)
  rw[fp]
  refine AW w XN.g0 ?_
  rw[DO]
  rcases hos o (List.mem_of_getElem? ho) with hlt|⟨j,hj,hfj⟩
  ·have e1:∀ k:Value→Prop,AD .sub (.int .i64 (IntKind.i64.wrap (o.X.num:Nat))) (.int .i64 12) k=k (.int .i64 ((o.X.num:Int)-12)):=fun k=>by
    rw[Ci (by omega),Bv,Ge (by omega) (by omega)]
   have e2:∀ k:Value→Prop,AD .geq (.int .i64 ((o.X.num:Int)-12)) (.int .i64 0) k=k (.bool false):=fun k=>by
    rw[BD,decide_eq_false (by omega)]
   rw[e1,e2,SR,BN (n:=1),Ci (by omega)]
   exact go
  ·have hjl:=(List.getElem?_eq_some_iff.1 hfj).1
   have e2:∀ k:Value→Prop,AD .geq (.int .i64 (j:Nat)) (.int .i64 0) k=k (.bool true):=fun k=>by
    rw[BD,decide_eq_true (by omega)]
   have e3:∀ k:Value→Prop,AD .geq (.int .i64 (j:Nat)) (.int .i64 (fs.length:Nat)) k=k (.bool false):=fun k=>by
    rw[BD,decide_eq_false (by omega)]
   have e4:∀ k:Value→Prop,AD .neq (str o.C) (str o.C) k=k (.bool false):=fun k=>by
    rw[Fq];simp
   obtain⟨fvv,hfv,rd⟩:=ff.2 j o.C hfj
   rw[hj,Ci (by omega),Ra (n:=12) (by show (12:Int)≤_;omega),show 12+j-12=j by omega,Ci (by omega),e2,Cq,hv,Aw,e3,Cr,←hv,fp]
   refine AW w XN.g18 ?_
   refine b.addR.addR.str w ?_
   refine (df.addR.addR:RdV 1 fv fs.length vs _).get w hfv ?_
   refine rd.addR.addR.str w ?_
   rw[e4,AU,BN (n:=1),Ci (by omega)]
   exact go
 ·have:i=os.length:=by omega
  subst this
  rw[fp]
  refine AW w (show (⟨[nsv]⟩:Array Value)[0]? = some nsv from rfl) ?_
  have e1:∀ k:Value→Prop,AD .eql (.int .i64 (n18:Nat)) (.int .i64 (fs.length+2:Nat)) k=k (.bool true):=fun k=>by
   rw[Aa,hn18];simp
  rw[hnv,Aw,hv,Aw,BN (n:=2),Ci (by omega),e1]
  exact K _ h' (w.cast (Res.assoc _ _ _).symm)
theorem AHK {vb:Nat}{nsv:Value}{ns:List Value}{ts:List TN}{ix:Nat→Nat}{iv:Value}{cs:List Value}{os:List AA}{b13:Nat}(df:RdV 1 fv fs.length vs x)(ff:Na x vs fs)(hl:fs.length≤60)
  (hvb:∀ (k:Value→Prop) (y:Res) (h:H),AN (pts b13 (.cells ⟨[nsv]⟩ 40 (0,0))+(y+x)) h→k iv→AC 0 (Pt vb) fun p=>AB false 1 p h k)
  (d:VecX 81 23 iv os.length cs x) (ov:OutV x cs os) (hos:∀ o∈os,o.X.num<12∨∃ j,o.X.num=12+j∧fs[j]? = some o.C) (hn:os.length<1000000) (dn:RdV 18 nsv ts.length ns x) (hn18:ts.length=fs.length+2)
  (tv:TreeV x ns ts) (hts:∀ t∈ts,t.X.mode<65536∧t.ks.length<1000000000) (fi:∀ i b,fs[i]? = some b→FindP ts 0 [Cn i] (ix i)∧∃ t,ts[ix i]? = some t∧t.data=b)
  (w:AN (pts b13 (.cells ⟨[nsv]⟩ 40 (0,0))+x) h) (K:∀ y h,AN (y+x) h→Q (.bool true) h):ADH Q fv (Pt vb) (Pt b13) fv (.int .i64 (fs.length:Nat)) (.int .i64 0) h:=by
 have fp:∀ (b o:Nat) (k:Value→Prop),AC o (Pt b) k=k (.pointer (some ⟨b,o,none⟩)):=fun b o k=>by simp only[go_sem]
 obtain⟨⟨va,vc,hv⟩,_⟩:=df.len
 obtain⟨⟨ia,ic,hiv⟩,_⟩:=d.rdv.len
 unfold ADH
 refine Ba (fun mm u h'=>∃ i y,mm+i=fs.length∧u=.int .i64 (i:Nat)∧AN (pts b13 (.cells ⟨[nsv]⟩ 40 (0,0))+(y+x)) h') fs.length ⟨0,0,rfl,rfl,w.cast (by rw[Res.zero_add])⟩ ?_
 rintro rec mm u h' ⟨i,y,hi,rfl,w⟩ hrec
 unfold ABk
 rw[AT]
 refine AX (fun hc=>?_) (fun hc=>?_)
 ·have hil:i<fs.length:=by omega
  obtain⟨b,hb⟩:∃ b,fs[i]? = some b:=⟨_,List.getElem?_eq_getElem hil⟩
  obtain⟨v,hv1,rd⟩:=ff.2 i b hb
  obtain⟨fi1,t,ht,hd⟩:=fi i b hb
  obtain⟨dv,nv,kv,q1,q2,q3,q4⟩:=tv.get ht
  refine (df.addR.addR:RdV 1 fv fs.length vs _).get w hv1 ?_
  refine Cj w rfl ?_
  refine Mw _ _ _ (s27 i (by omega) _ _ _ w fun y2 h w=>?_)
  have hnl:=GM 6 i (by omega)
  refine And.intro (Cj w rfl rfl) ?_
  refine G5 w Ho rfl rfl rfl fun b9 h w=>?_
  refine And.intro (Cj w rfl rfl) ?_
  have Tf:RdV 1 (.slice (some ⟨b9,0,none⟩) 1 1) [Cn i].length (strs [Cn i]) (pts b9 (.cells ⟨[str (Cn i)]⟩ 9 (0,0))):=.inr ⟨b9,0,1,[str (Cn i)],9,(0,0),0,rfl,(Res.add_zero _).symm,by show 0+1*1≤1;omega,rfl,Nat.le_refl _⟩
  have k1:∀ B9 Y2 B13 Y X:Res,B9+(Y2+(B13+(Y+X)))=(B9+(Y2+(B13+Y)))+X:=by intros;ac_rfl
  have w':=w.cast (k1 _ _ _ _ _)
  refine ACJ _ _ _ _ (s15 dn.addR tv.mono hts Tf.addL.addL (by show 1<_;omega) fi1 w' fun y3 h w=>?_)
  rw[DA,DH,F1,Bool.not_true,Cr,fp]
  have k2:∀ Y3 B9 Y2 B13 Y X:Res,Y3+((B9+(Y2+(B13+Y)))+X)=B13+((Y3+(B9+(Y2+Y)))+X):=by intros;ac_rfl
  have w:=w.cast (k2 _ _ _ _ _ _)
  refine AW w (show (⟨[nsv]⟩:Array Value)[0]? = some nsv from rfl) ?_
  have hil2:=(List.getElem?_eq_some_iff.1 ht).1
  have hcell:ns[ix i*18+13]? = some dv:=by
   have:=TN.g13 (t:=t) (dv:=dv) (xv:=.slice none 0 0) (nv:=nv) (kv:=kv)
   rw[←q1] at this
   have h2:((ns.drop (ix i*18)).take 18)[13]? = some dv:=by simpa using this
   rw[List.getElem?_take,if_pos (by omega),List.getElem?_drop] at h2
   exact h2
  refine (dn.addR.addR:RdV 18 nsv ts.length ns _).cell w hil2 (by omega) hcell ?_
  refine q2.addR.addR.str w ?_
  refine rd.addR.addR.str w ?_
  have e4:∀ k:Value→Prop,AD .neq (str t.data) (str b) k=k (.bool false):=fun k=>by
   rw[Fq,hd];simp
  rw[e4,AU,BN (n:=1),Ci (by omega)]
  exact hrec (mm-1) _ _ ⟨i+1,_,by omega,rfl,w⟩ (by omega)
 ·have:i=fs.length:=by omega
  subst this
  have nf:∀ (k:Value→Prop),(AE (Pt vb) k)=k (Pt vb):=fun k=>by simp only[go_sem]
  rw[nf]
  refine hvb _ y h' w ?_
  rw[hiv,Aw,←hiv]
  refine AIY df.addR ff.addR hl d.addR ov.mono hos hn dn.addR hn18 w fun y2 h w=>?_
  exact K (y2+y) h (w.cast (Res.assoc _ _ _).symm)
end
end
section
variable {h:H} {k:Value→Prop} {kt Q:Kt} {x y z r:Res}
attribute [local irreducible] TN.cells XN.cells VS.cells
attribute [local irreducible] AK Az AQ BB Ae AY AH AM
theorem Xk (l m:List U1):FC (l++m)=FC l++FC m:=by
 unfold FC
 rw[List.flatMap_append]
theorem WZ {sz:Nat}(K:k (.agg ⟨(Me sz 0).cells (.slice none 0 0)⟩)):Ae (.struct [(0,1),(1,1),(2,1),(3,1),(4,1),(5,3),(8,3),(11,3),(14,3),(17,1),(18,1),(19,1)]) (AG TP 28) [(1,.int .i64 (sz:Nat))] k:=
 Au ADo rfl (rs:=(Me sz 0).cells (.slice none 0 0)) rfl K
theorem ACO {nm:Bs}{f:FL}(K:k (.agg ⟨(Op1.create nm f).cells (.slice none 0 0)⟩)):Ae (.struct [(0,1),(1,1),(2,1),(3,20),(23,1)]) (AG TP 32) [(0,.int .i64 0),(1,str nm),(3,.agg ⟨f.cells (.slice none 0 0)⟩)] k:=
 Au Fy rfl (rs:=(Op1.create nm f).cells (.slice none 0 0)) (by kernel_rfl) K
theorem AEK {b:Bs}{v:Value}(hv:v.cells=#[v])(K:k (.agg ⟨(Op1.write b).cells v⟩)):Ae (.struct [(0,1),(1,1),(2,1),(3,20),(23,1)]) (AG TP 32) [(0,.int .i64 1),(4,v)] k:=
 Au Fy rfl (rs:=(Op1.write b).cells v) (by
  have e2:DC (Br (.struct [(0,1),(1,1),(2,1),(3,20),(23,1)])) ((Op1.write b).cells (.slice none 0 0)) [(4,v)]=some ((Op1.write b).cells v):=by
   unfold DC
   simp only[Br,hv]
   rfl
  exact e2) K
attribute [local irreducible] Op1.cells
theorem QJ {fs:List Bs}{b:Bs}(h:b∈fs):b.length≤(fs.map List.length).sum:=by
 induction fs with
 | nil=>simp at h
 | cons a l ih=>
  rw[List.map_cons,List.sum_cons]
  rcases List.mem_cons.1 h with rfl|h
  ·omega
  ·have:=ih h;omega
theorem YR {fs:List Bs}:EW (Ca fs fs.length)=(fs.map List.length).sum+4095*fs.length:=by
 rw[Sd fs _ (Nat.le_refl _),List.take_length]
 induction fs with
 | nil=>rfl
 | cons a l ih=>rw[List.map_cons,List.sum_cons,ih,List.map_cons,List.sum_cons,List.length_cons];omega
section
variable {fv:Value} {vs:List Value} {fs:List Bs} {inl:Bool}
theorem AH8 {u0:Value}{r0:Res}(df:RdV 1 fv fs.length vs x)(ff:Na x vs fs)(hl:fs.length≤60)(hs:(fs.map List.length).sum≤300000)(g:JX x)(a0:Vec 32 24 u0 0 [] r0)(w:AN (r0+x) h)
  (K:∀ y h,AN (y+x) h→Q (.bool true) h):ADN Q fv (.bool inl) fv (.int .i64 (fs.length:Nat)) u0 (.int .i64 0) h:=by
 have fp:∀ (b o:Nat) (k:Value→Prop),AC o (Pt b) k=k (.pointer (some ⟨b,o,none⟩)):=fun b o k=>by simp only[go_sem]
 have hio:=WC (fs:=fs) (fun b hb=>by have:=QJ hb;omega) fs.length (by omega)
 obtain⟨⟨va,vc,hv⟩,_⟩:=df.len
 unfold ADN
 refine DE (fun mm u0 u1 h'=>∃ i l' r y,mm+i=fs.length∧u1=.int .i64 (i:Nat)∧l'.length=2*i∧Vec 32 24 u0 (2*i) (FC l') r∧l'.map (·.1)=(Ca fs i).flatMap It.ops∧(∀ o∈l',RdX x o.2 o.1.data)∧AN (r+(y+x)) h') fs.length ⟨0,[],r0,0,rfl,rfl,rfl,a0,rfl,by simp,w.cast (by rw[Res.zero_add])⟩ ?_
 rintro rec mm u0 u1 h' ⟨i,l',r,y,hi,rfl,hl',a,hm,hd,w⟩ hrec
 unfold ADF
 rw[AT]
 refine AX (fun hc=>?_) (fun hc=>?_)
 ·have hil:i<fs.length:=by omega
  obtain⟨b,hb⟩:∃ b,fs[i]? = some b:=⟨_,List.getElem?_eq_getElem hil⟩
  obtain⟨v,hv1,rd⟩:=ff.2 i b hb
  have hbl:=QJ (List.mem_of_getElem? hb)
  refine (df.addR.addR:RdV 1 fv fs.length vs _).get w hv1 ?_
  refine Mw _ _ _ (s27 i (by omega) _ _ _ w fun y2 h w=>?_)
  have hnl:=GM 6 i (by omega)
  have e1:∀ k:Value→Prop,AD .add (.string ⟨#[47]⟩) (str (Cn i)) k=k (str (47::Cn i)):=fun k=>H9 (a:=[47]) (by simp;omega)
  obtain⟨ca,cc,hbv⟩:=rd.len
  rw[e1,hbv,Aw,←hbv]
  refine WZ ?_
  refine ACO ?_
  refine AEK (b:=b) (by rw[hbv];rfl) ?_
  refine Qi w Fy (by omega) (by omega) (Op1.cells_len _ _) (Op1.cells_len _ _) fun v2 r2 h d2 w=>?_
  have k1:∀ R2 Y2 R Y X:Res,R2+(Y2+(R+(Y+X)))=R+(R2+((Y2+Y)+X)):=by intros;ac_rfl
  have w:=w.cast (k1 _ _ _ _ _)
  refine CA a (d2.addL) w Fy (by show (List.toArray _).size=24;rw[List.size_toArray,Op1.cells_len]) (by omega) (by omega) (by
   rw[List.all_append,Op1.cells_one _ _ rd.one_,Op1.cells_one _ _ rfl];rfl) fun u0 r h a w=>?_
  rw[BN (n:=1),Ci (by omega)]
  have k2:∀ R R2 Y X:Res,R+(R2+(Y+X))=R+((R2+Y)+X):=by intros;ac_rfl
  refine hrec (mm-1) _ _ _ ⟨i+1,l'++[(.create (47::Cn i) (Me b.length 0),.slice none 0 0),(.write b,v)],r,_,by omega,rfl,by rw[List.length_append,hl'];simp;omega,?_,?_,?_,w.cast (k2 _ _ _ _)⟩ (by omega)
  ·rw[Xk,show 2*(i+1)=2*i+2 by omega]
   have:FC [(.create (47::Cn i) (Me b.length 0),.slice none 0 0),(.write b,v)]=(Op1.create (47::Cn i) (Me b.length 0)).cells (.slice none 0 0)++(Op1.write b).cells v:=by
    unfold FC
    rw[List.flatMap_cons,List.flatMap_cons,List.flatMap_nil,List.append_nil]
   rw[this];exact a
  ·rw[List.map_append,hm,Ca,List.flatMap_append]
   congr 1
   rw[List.getD_eq_getElem?_getD,hb]
   rfl
  ·intro p hp
   rcases List.mem_append.1 hp with h1|h1
   ·exact hd p h1
   ·simp only[List.mem_cons,List.not_mem_nil,or_false] at h1
    rcases h1 with rfl|rfl
    ·exact .inl ⟨none,0,rfl,rfl⟩
    ·exact rd
 ·have:i=fs.length:=by omega
  subst this
  have hpl:=C6 fs fs.length
  have hsm:=YR (fs:=fs)
  have st:∀ db,∃ SE S,Steps (l'.map (·.1)) (S2 [] inl EA db) SE∧He SE S∧S.db=db∧Xp (To (Ca fs fs.length)) (BS S):=fun db=>by
   rw[hm]
   exact QD inl db hio (AEy fs _) (by omega) (by omega)
  have hdl:∀ o∈l',o.1.data.length≤100000000:=fun o ho=>by
   have:o.1∈l'.map (·.1):=List.mem_map.2 ⟨o,ho,rfl⟩
   rw[hm,List.mem_flatMap] at this
   obtain⟨it,h1,h2⟩:=this
   obtain⟨j,hj,rfl⟩:=Fw h1
   have hg:fs[j]? = some fs[j]:=List.getElem?_eq_getElem hj
   have:=QJ (List.mem_of_getElem? hg)
   unfold It.ops Pm at h2
   rw[List.getD_eq_getElem?_getD,hg] at h2
   simp only[List.mem_cons,if_true,List.not_mem_nil,or_false,Option.getD_some] at h2
   rcases h2 with h2|h2<;>rw[h2]
   ·show 0≤_;omega
   ·show fs[j].length≤_;omega
  refine AEN _ _ _ _ _ (s13 (x:=r+(y+x)) (l:=l') (by rw[hl'];exact a.rdv.addL) (by omega) (fun o ho=>(hd o ho).addR.addR) hdl st g.addR.addR w fun v os cs z h dv ov ok hP hnum hnn w=>?_)
  rw[DA,DH,F1,Bool.not_true,AU]
  refine ABt _ _ _ (AHp hio (by omega) hP ok dv.addL ov.addL hnum w fun nsv ns ts ix y2 h tx dn tv hts w=>?_)
  refine Ah w Re rfl fun b13 h w=>?_
  refine AL w ⟨[nsv]⟩ rfl rfl (by simp) (by obtain⟨⟨na,nc,hn⟩,_⟩:=dn.len;rw[hn];rfl) fun h w=>?_
  rw[hv,Aw,←hv]
  obtain⟨io,R,hos,hp,hf,hipg⟩:=hP
  have kx:∀ Y2 V Z R Y X:Res,Y2+(V+(Z+(R+(Y+X))))=(Y2+(V+(Z+(R+Y))))+X:=by intros;ac_rfl
  refine AHK (x:=y2+(v.res+(z+(r+(y+x))))) (ix:=fun i=>ix (12+i)) df.addR.addR.addR.addR.addR ff.addR.addR.addR.addR.addR hl (fun k y h w hk=>by rw[fp];exact AW w VS.g0 hk) dv.addL.addR.addR ov.addL.mono.mono ?_ hnn dn.addL (by rw[tx.len,hpl]) tv hts ?_ w fun y3 h w=>K _ h (w.cast (by rw[kx,←Res.assoc]))
  ·intro o ho
   rw[hos] at ho
   obtain⟨c,hc,rfl⟩:=List.mem_map.1 ho
   have hcV:=hp.mem_iff.1 hc
   have f:=hf c hcV
   rw[f.num]
   rcases BE.1 hcV with h|⟨h1,h2⟩
   ·exact .inl (by omega)
   ·by_cases h3:c<12
    ·exact .inl h3
    ·refine .inr ⟨c-12,by omega,?_⟩
     rw[hpl] at h2
     have hg:=Fx fs fs.length (c-12) (by omega)
     have:=(f.it (c-12) _ (by omega) hg).2.2 (Ur fs _ (List.mem_of_getElem? hg))
     rw[this]
     show _=some (fs.getD (c-12) [])
     rw[List.getD_eq_getElem?_getD,List.getElem?_eq_getElem (by omega)];rfl
  ·intro i b hb
   have hil:=(List.getElem?_eq_some_iff.1 hb).1
   have hg:=Fx fs fs.length i hil
   obtain⟨t0,ht0,n0⟩:=tx.node 2 (BE.2 (.inl rfl))
   rw[tx.root] at ht0
   obtain⟨d1,d2,d3⟩:=n0.dir (Aj.2 (.inl rfl))
   have hk:=d3 (Cn i,12+i) (Co.2 (.inr ⟨i,_,hg,rfl,rfl⟩))
   refine⟨.cons ht0 hk d1 .nil,?_⟩
   obtain⟨t,ht,nt⟩:=tx.node (12+i) (BE.2 (.inr ⟨by omega,by rw[hpl];omega⟩))
   refine⟨t,ht,?_⟩
   rw[(nt.it i _ rfl hg).2.2,Nl,if_pos rfl]
   show fs.getD i []=b
   rw[List.getD_eq_getElem?_getD,hb];rfl
theorem s6 (df:RdV 1 fv fs.length vs x)(ff:Na x vs fs)(hl:fs.length≤2000000)(hs:∀ b∈fs,b.length≤2000000)(g:JX x)(w:AN x h)
  (K:∀ y h,AN (y+x) h→Q (.bool true) h):f6 fv (.bool inl) h Q:=by
 obtain⟨⟨va,vc,hv⟩,_⟩:=df.len
 have hK:Q (.bool true) h:=K 0 h (w.cast (Res.zero_add _).symm)
 unfold f6
 refine AC8 _ _ _ (s26 df ff (by omega) (fun b hb=>by have:=hs b hb;omega) w ?_)
 rw[F1,Bool.not_true,AU,hv,Aw,←hv]
 unfold AEw
 have hsum:∀ l:List Bs,(∀ b∈l,b.length≤2000000)→(l.map List.length).sum≤2000000*l.length:=by
  intro l
  induction l with
  | nil=>intro _;exact Nat.le_refl _
  | cons a l ih=>
   intro h
   have h1:=ih fun b hb=>h b (List.mem_cons_of_mem _ hb)
   have h2:=h a (List.mem_cons_self ..)
   rw[List.map_cons,List.sum_cons,List.length_cons];omega
 refine DE (fun mm u0 u1 h'=>h'=h∧∃ i,mm+i=fs.length∧u0=.int .i64 (((fs.take i).map List.length).sum:Nat)∧u1=.int .i64 (i:Nat)) fs.length ⟨rfl,0,rfl,rfl,rfl⟩ ?_
 rintro rec mm u0 u1 h' ⟨rfl,i,hi,rfl,rfl⟩ hrec
 unfold AEX
 rw[AT]
 refine AX (fun hc=>?_) (fun hc=>?_)
 ·have hil:i<fs.length:=by omega
  obtain⟨b,hb⟩:∃ b,fs[i]? = some b:=⟨_,List.getElem?_eq_getElem hil⟩
  obtain⟨v,hv1,rd⟩:=ff.2 i b hb
  obtain⟨ca,cc,hbv⟩:=rd.len
  have h1:=hsum (fs.take i) fun b hb=>hs b (List.mem_of_mem_take hb)
  have h2:=hs b (List.mem_of_getElem? hb)
  rw[List.length_take] at h1
  refine df.get w hv1 ?_
  rw[hbv,Aw,F2,Ci (by omega),BN (n:=1),Ci (by omega)]
  refine hrec (mm-1) _ _ _ ⟨rfl,i+1,by omega,?_,rfl⟩ (by omega)
  rw[List.take_add_one,hb,List.map_append,List.sum_append]
  simp
 ·have:i=fs.length:=by omega
  subst this
  rw[List.take_length,hv,Aw,Ao]
  by_cases h60:(fs.length:Int)>60
  ·rw[decide_eq_true h60,PD];exact hK
  ·rw[decide_eq_false h60,Cr,Ao]
   refine AX (fun _=>hK) (fun hsm=>?_)
   unfold AEJ
   refine Dg w Fy fun u0 r0 h a w=>?_
   rw[Aw,←hv]
   exact AH8 df ff (by omega) (by omega) g a w K
end
end
section
open Go Go.ChangeShapes Go.WideShapes Go.RowKit
theorem AHb:ownKnob Tryz.prog.godebug=none:=by kernel_rfl
theorem SF:laidOutB Tryz.prog=true:=by kernel_rfl
set_option maxRecDepth 100000 in
theorem Ia (K:Type)(enc:TypeId×Value→K)(W:World)(base:Nat)(args:Array Value)(ds gs:List (DataW K))(before:List MemPlace)
  (hval:∀ (j:Nat) t v,Tryz.f6.params[j]? = some t→args[j]? = some v→Value.okWide Tryz.prog W .any base t v)
  (hW:DataW.Whole enc Tryz.prog Tryz.f6.params.toList Rows.fnImagePatchedSpec.vars false W args.toList ds gs before) (hk:Rows.uptoSmall K (ds++gs)=true) (hL:laidMetH Tryz.prog Rows.fnImagePatchedRow.laid W) :
  Calls Tryz.prog 6 args W fun e W'=>∃ v,e=.returned v∧Rows.fnImagePatchedSpec.post enc Tryz.prog Tryz.f6 false true false false W args v W':=by
 have hW':=hW
 obtain⟨p,q,hA0,hV,rfl,hfz,hnd⟩:=hW
 have hA:DataW.TrodAll enc Tryz.prog W 0 (fun _=>true) true Tryz.f6.params.toList args.toList ds p:=hA0
 rw[Tryz.params6] at hA hval
 obtain⟨v0,vs0,d0,ds0,p0,q0,hargs,rfl,rfl,h0,r0⟩:=trodAll_cons hA
 obtain⟨v1,vs1,d1,ds1,p1,q1,rfl,rfl,rfl,h1,r1⟩:=trodAll_cons r0
 obtain⟨rfl,rfl,rfl⟩:=trodAll_nil r1
 obtain rfl:args=#[v0,v1]:=by cases args;simp_all
 obtain⟨rfl,rfl⟩:=trodVars_none hV
 have h1k:=h1
 obtain⟨inl,rfl,rfl,rfl⟩:=open_bool ty4 (hval 1 4 v1 rfl rfl) h1
 have hk2:Rows.uptoBulkAll ([d0,.lit (.bool inl)]++[])≤1048576:=of_decide_eq_true hk
 have hbulk:Rows.uptoBulk d0≤1048576:=by
  have:=L5 (d:=d0) (l:=[d0,DataW.lit (.bool inl)]++[]) (by simp)
  omega
 have hc0:v0.cells.toList=[v0]:=by
  have h:=hval 0 76 v0 rfl rfl
  unfold Value.okWide at h
  rw[ACz] at h
  unfold Cell.okWide at h
  cases v0<;>first|rfl|(simp[ACz,Cell.ok] at h)
 obtain⟨fuel,hf⟩:=id h0
 rw[hc0] at hf
 obtain⟨vs,fs,rd,ff,hl,hb⟩:=Q3 ACz AIE AHe ty5 ce5 hf
 have walk:=Xr (f:=6) (args:=[v0,.bool inl]) (W:=W) (AGU _ _ _ _ (s6 rd ff (by omega) (fun b hb2=>by have:=hb b hb2;omega) (ADS hL) (YW W.heap) fun y h w=>⟨rfl,y,w⟩))
 refine walk.mono fun e W' ⟨he,w1,w2,w3⟩=>⟨_,he,?_⟩
 have hlt:=hW'.lt
 have same:=Yd hlt w3
 refine⟨_,_,_,[],_,[],hW',trodAll_cons_mk (shut_bool ty4 _) trodAll_mk0,trodAll_cons_mk (WideElems.Trod_stays SF (by kernel_rfl) (of_decide_eq_true (by kernel_rfl)) h0 (fun x hx=>same x (by simp[hx])) (fun x hx=>by simpa using hlt x (by simp[hx])))
  (trodAll_cons_mk (WideElems.Trod_stays SF (by kernel_rfl) (of_decide_eq_true (by kernel_rfl)) h1k (fun x hx=>by cases hx) (fun x hx=>by cases hx)) trodAll_mk0),rfl,Zl w1 w2 w3,fun h=>by cases h⟩
noncomputable def Iz (os:Os):World:=
 {World.holding Tryz.prog os ⟨#[],#[],[]⟩ with heap:=(World.holding Tryz.prog os ⟨#[],#[],[]⟩).heap.modify 4 fun
   | .cells _ t frozen=>.cells ⟨PXc⟩ t frozen
   | o=>o}
theorem NQ (os:Os):laidMet Tryz.prog Rows.fnImagePatchedUptoRow.laid ((Iz os).forCall (fun _ _=>0) ⟨#[],#[.slice none 0 0,.bool false],[]⟩).memory:=
 laidMet_of_run' 8 (by kernel_rfl) (by kernel_rfl)
theorem Ld (os:Os){K:Type}(enc:TypeId×Value→K):∃ places,DataW.whole enc Tryz.prog ((Iz os).forCall (fun _ _=>0) ⟨#[],#[.slice none 0 0,.bool false],[]⟩).memory Tryz.f6.params.toList Rows.fnImagePatchedSpec.vars false #[Value.slice none 0 0,Value.bool false].toList 8=some ([.nil,.lit (.bool false)],[],places):=
 ⟨[],by kernel_rfl⟩
set_option maxRecDepth 100000 in
theorem KN (os:Os)(started:os.Started)(K:Type)(enc:TypeId×Value→K)(F:Stop.Interp) :
  ReturnsInHanded {} Tryz.checked os 6 .any ((Rows.OpenSpec.upto Rows.fnImagePatchedSpec).preRow enc Tryz.prog Tryz.f6 Rows.fnImagePatchedUptoRow.domain false Rows.fnImagePatchedUptoRow.laid) (((Rows.OpenSpec.upto Rows.fnImagePatchedSpec).at F).post enc Tryz.prog Tryz.f6 false true false false):=by
 obtain⟨places,hx⟩:=Ld os enc
 refine returnsInHanded_of_row (C:=Tryz.checked) (s:=Rows.OpenSpec.upto Rows.fnImagePatchedSpec) AHb started (by kernel_rfl) Tryz.func6
  (witness_row_at (enc:=enc) (C:=Tryz.checked) false (Iz os) #[.slice none 0 0,.bool false] rfl (by kernel_rfl) (by kernel_rfl) (by kernel_rfl)
   (OpenSpec.preRow_of_cond 8 hx (by kernel_rfl) (fun k hk=>by cases hk;kernel_rfl) (by kernel_rfl) (NQ os))) ?_
 intro W base args ds gs before hval hW _ hcond _ hL _ _
 exact Ia K enc W base args ds gs before hval hW (hcond _ rfl) hL
theorem NP:Rows.FnImagePatchedUptoSaid:=
 OpenClaim.holds_of_cond 6 Tryz.f6 rfl rfl rfl rfl rfl rfl rfl ⟨rfl,rfl,rfl,rfl,rfl⟩ rfl rfl rfl rfl rfl (by kernel_rfl) Tryz.func6 (by kernel_rfl)
  (of_decide_eq_true (by kernel_rfl)) (by unfold Func.isWrapper;first|(rw[if_pos (by decide +kernel)];kernel_rfl)|(rw[if_neg (by decide +kernel)];exact⟨rfl,rfl⟩))
  (fun os started K enc _ F=>by rw[OpenClaim.pre_eq_preRow];exact KN os started K enc F)
theorem Lb (f:FuncId)(fn:Func)(hf : Tryz.pinned.checked.prog.funcNamed "pub-marram/laws.FnImagePatched" = some f)(hfn:Tryz.pinned.checked.prog.funcs[f]? = some fn) :
  true=Tryz.pinned.checked.prog.looks []∧∀ (j:Nat) t,fn.params[j]? = some t→Tryz.pinned.checked.prog.wantsStandIn t=false:=by
 obtain rfl:f=6:=Option.some.inj ((show Tryz.prog.funcNamed "pub-marram/laws.FnImagePatched" = some 6 by kernel_rfl).symm.trans hf) |>.symm
 obtain rfl:fn=Tryz.f6:=(Option.some.inj (Tryz.func6.symm.trans hfn)).symm
 refine⟨by kernel_rfl,fun j t ht=>?_⟩
 rw[Tryz.params6] at ht
 have hm:=Array.mem_of_getElem? ht
 simp only[List.mem_toArray,List.mem_cons,List.not_mem_nil,or_false] at hm
 rcases hm with rfl|rfl
 ·exact (show Tryz.prog.wantsStandIn 76=false by kernel_rfl)
 ·exact (show Tryz.prog.wantsStandIn 4=false by kernel_rfl)
theorem patched_card:Rows.FnImagePatchedUptoCardSaid:=
 Claim7.holds_tied_plain_at .later [] _ _ _ _ NP (fun _ h=>by cases h) (by kernel_rfl) (fun _ h=>by cases h) fnImagePatchedUpto_row_tie rfl ⟨rfl,rfl⟩ (by kernel_rfl) rfl Lb (by kernel_rfl)
end
end Go.Proofs.YtollddkkdgoonaaGreatDoor
