/- A part of a proof over images that are written and read. No condition; a step. -/
import Derived.Test.YtollddkkdgoonaaGreatDoorM20
import Derived.Test.YtollddkkdgoonaaGreatDoorCards
import Derived.Test.YtollddkkdgoonaaGreatDoorTie
import Derived.WalkKit
import Derived.ProofKit
import Derived.OpenShut
import Derived.WideKeyArgs
import Derived.Deep.DeepHandedRow
import Derived.Lib.LaidTab
namespace Go.Proofs.YtollddkkdgoonaaGreatDoor
open Go
set_option linter.unusedVariables false
set_option linter.unusedSimpArgs false
section
variable {h:H} {k:Value→Prop} {kt Q:Kt} {x y z r:Res} {v:VS}
attribute [local irreducible] TN.cells
attribute [local irreducible] AK Az AQ BB Ae AY AH AM VS.cells XN.cells
theorem Re:AG TP 40=some (.agg ⟨[.slice none 0 0]⟩):=by kernel_rfl
theorem O9 (N:Nat)(P:List Nat):∀ (E:List EN) (ks:List (Bs×Nat)),(E.foldl (Bi N P) ks).length≤ks.length+E.length
 | [],ks=>A07 _
 | e::E,ks=>by
  have h1:=MY N P ks e
  have h2:=O9 N P E (Bi N P ks e)
  rw[A71,A19]
  omega
section
variable {N b9 b3 m:Nat} {P:List Nat} {t:TN} {dv nv kv x4 ev nsv:Value} {E:List EN} {rP rN rB:Res} {csN:List Value} {ts:List TN}
set_option maxRecDepth 20000 in
theorem AGt {x2 x44 x45:Value}{rec1:Value→H→Prop}{I:Nat}(a4:Vec 3 1 x4 N (ints P) rP)(hPN:P.length=N)(hN:N<1000000)(de:VecX 114 3 ev E.length (entC E) x)(hE:∀ e∈E,e.2.1<4294967296)(hEl:E.length<10000000)(ht:t.ks=[])(hI:I<100000000)
  (aN:Vec 63 18 nsv m csN rN) (hm:m<1000000) (tv:TreeV x csN ts) (dd:RdX x dv t.data) (hnv:nv=.slice none 0 0) (hkv:kv=.slice none 0 0)
  (w:AN (pts b9 (.cells ⟨t.cells dv (.slice none 0 0) nv kv⟩ 63 (0,0))+(rP+(((pts b3 (.cells ⟨[nsv]⟩ 40 (0,0))+rN)+rB)+x))) h)
  (K:∀ nsv rN cs y h,Vec 63 18 nsv (m+1) cs rN→TreeV (y+x) cs (ts++[{t with ks:=E.foldl (Bi N P) []}])→AN (rP+(((pts b3 (.cells ⟨[nsv]⟩ 40 (0,0))+rN)+rB)+(y+x))) h→rec1 (.int .i64 (I+1:Nat)) h) :
  Wj Q rec1 x2 (Pt b3) x4 (Pt b9) x44 x45 (.int .i64 (I:Nat)) ev (.int .i64 (E.length:Nat)) (.int .i64 ((0:Nat):Int)) h:=by
 have ff:∀ (b o:Nat) (k:Value→Prop),AC o (Pt b) k=k (.pointer (some ⟨b,o,none⟩)):=fun b o k=>by simp only[go_sem]
 obtain⟨⟨pa,pc,hx4⟩,_⟩:=a4.len
 have hdv:∃ a n c,dv=.slice a n c:=by
  obtain⟨a,c,h⟩:=dd.len
  exact⟨a,_,c,h⟩
 unfold Wj
 refine Ba (fun mm u h'=>∃ i y nv kv,mm+i=E.length∧u=.int .i64 (i:Nat)∧RdV 1 nv ((E.take i).foldl (Bi N P) []).length (strs (((E.take i).foldl (Bi N P) []).map (·.1))) (y+x)∧RdV 1 kv ((E.take i).foldl (Bi N P) []).length (ints (((E.take i).foldl (Bi N P) []).map (·.2))) (y+x)∧AN (pts b9 (.cells ⟨({t with ks:=(E.take i).foldl (Bi N P) []}:TN).cells dv (.slice none 0 0) nv kv⟩ 63 (0,0))+(rP+(((pts b3 (.cells ⟨[nsv]⟩ 40 (0,0))+rN)+rB)+(y+x)))) h') E.length ⟨0,0,nv,kv,rfl,rfl,.inl ⟨none,0,hnv,rfl,rfl⟩,.inl ⟨none,0,hkv,rfl,rfl⟩,by
  have e:({t with ks:=(E.take 0).foldl (Bi N P) []}:TN)=t:=by rw[←ht];rfl
  rw[e,Res.zero_add];exact w⟩ ?_
 rintro rec mm u h' ⟨i,y,nv,kv,hi,rfl,c1,c2,w⟩ hrec
 have hfl:=O9 N P (E.take i) []
 rw[A20,A61] at hfl
 unfold We
 rw[AT]
 refine AX (fun hc=>?_) (fun hc=>?_)
 ·have hil:i<E.length:=by omega
  obtain⟨e,he⟩:∃ e,E[i]? = some e:=⟨_,A00 hil⟩
  refine (de.addR.addR.addR.addR:VecX 114 3 ev E.length (entC E) _).agg w hil ?_
  rw[(Eb he).2.2.2]
  refine Ah w Fr rfl fun b13 h w=>?_
  refine AL w ⟨e.cells⟩ rfl rfl (by simp) rfl fun h w=>?_
  have g0:(⟨e.cells⟩:Array Value)[0]? = some (str e.1):=rfl
  have g1:(⟨e.cells⟩:Array Value)[1]? = some (.int .u64 (e.2.1:Nat)):=rfl
  have heb:=hE e (A28 he)
  have htk:(E.take (i+1)).foldl (Bi N P) []=Bi N P ((E.take i).foldl (Bi N P) []) e:=by
   rw[A85,he,B19];rfl
  have j1:KL Q rec1 rec x2 (Pt b3) x4 (Pt b9) (Pt b13) x44 x45 (.int .i64 (I:Nat)) ev (.int .i64 (E.length:Nat)) (.int .i64 (i:Nat)) (.bool (decide (¬(e.1=[46]∨e.1=[46,46]∨N≤e.2.1)))) h:=by
   refine AFJ (t:={t with ks:=(E.take i).foldl (Bi N P) []}) (e:=e) a4 hPN hN (by omega) heb (by show ((E.take i).foldl (Bi N P) []).length<_;omega) hdv c1 c2 w fun nv kv y h c1 c2 w=>?_
   exact hrec (mm-1) _ _ ⟨i+1,y,nv,kv,by omega,rfl,by rw[htk];exact c1,by rw[htk];exact c2,by rw[htk];exact w⟩ (by omega)
  rw[ff]
  refine AW w g0 ?_
  rw[show (.string ⟨#[46]⟩:Value)=str [46] from rfl,Fq]
  refine C3 (fun h1=>?_) (fun h1=>?_)
  ·rw[ff]
   refine AW w g0 ?_
   rw[show (.string ⟨#[46,46]⟩:Value)=str [46,46] from rfl,Fq]
   refine C3 (fun h2=>?_) (fun h2=>?_)
   ·rw[ff]
    refine AW w g1 ?_
    rw[hx4,Aw,←hx4,DO,CU (by omega),AT]
    have e1:decide ((e.2.1:Int)<(N:Int))=decide (¬(e.1=[46]∨e.1=[46,46]∨N≤e.2.1)):=decide_eq_decide.2 (by
     constructor
     ·rintro h3 (h4|h4|h4)
      ·exact h1 h4
      ·exact h2 h4
      ·omega
     ·intro h3
      rcases A66 e.2.1 N with h4|h4
      ·omega
      ·exact absurd (.inr (.inr h4)) h3)
    rw[e1]
    exact j1
   ·rw[A08 (Decidable.not_not.2 (.inr (.inl (Decidable.not_not.1 h2))))] at j1
    exact j1
  ·rw[A08 (Decidable.not_not.2 (.inl (Decidable.not_not.1 h1)))] at j1
   exact j1
 ·have:i=E.length:=by omega
  subst this
  rw[A38] at c1 c2 w
  obtain⟨da,dn,dc,hdv⟩:=hdv
  obtain⟨⟨na,nc,hnv⟩,_⟩:=c1.len
  obtain⟨⟨ka,kc,hkv⟩,_⟩:=c2.len
  have hone:(({t with ks:=E.foldl (Bi N P) []}:TN).cells dv (.slice none 0 0) nv kv).all Value.oneCell'=true:=by rw[hdv,hnv,hkv];exact TN.one
  rw[ff]
  refine AW w (show (⟨[nsv]⟩:Array Value)[0]? = some nsv from rfl) ?_
  refine Cj (b:=b9) w TN.len ?_
  have k1:∀ A B C D E X:Res,A+(B+(((C+D)+E)+X))=D+(A+(B+(C+(E+X)))):=by intros;ac_rfl
  refine CW aN (w.cast (k1 _ _ _ _ _ _)) Ko rfl TN.len (by omega) (by omega) hone fun b h w=>?_
  refine B0 aN w Ko rfl TN.len hone (by omega) (by omega) fun nsv' rN' h aN' w=>?_
  obtain⟨⟨sa,sc,hsv⟩,_⟩:=aN'.len
  rw[ff]
  refine AL w ⟨[nsv']⟩ (by rw[hsv];rfl) (by rw[hsv];rfl) (by simp) (by rw[hsv];rfl) fun h w=>?_
  rw[BN (n:=1),Ci (by omega)]
  have k2:∀ A B C D E Y X:Res,D+(A+(B+(C+(E+(Y+X)))))=B+(((C+D)+E)+((A+Y)+X)):=by intros;ac_rfl
  refine K nsv' rN' _ _ h aN' (.snoc tv.mono dd.addR ?_ ?_) (w.cast (k2 _ _ _ _ _ _ _))
  ·rw[Res.assoc];exact c1.addR
  ·rw[Res.assoc];exact c2.addR
end
end
section
variable {h:H} {k:Value→Prop} {kt Q:Kt} {x y z r:Res} {v:VS}
attribute [local irreducible] TN.cells
attribute [local irreducible] AK Az AQ BB Ae AY AH AM VS.cells XN.cells
theorem Ja {b o n:Nat}{c e:Array Value}{T:TypeId}{fz:Nat×Nat}(w:AN x h)[CO b x (.cells c T fz)](hn:o+n≤c.size)(he:c.extract o (o+n)=e)(K:k (.agg e)):AB true n (.pointer (some ⟨b,o,none⟩)) h k:=by
 rw[Am (o:=o) (w.find (b:=b)) hn,he];exact K
section
variable {N b3 b2:Nat} {P:List Nat} {x4 iv:Value} {os:List AA} {rP rN:Res} {cs:List Value}
set_option maxRecDepth 20000 in
theorem AGC (a4:Vec 3 1 x4 N (ints P) rP)(hPN:P.length=N)(hN:N<1000000)(d:VecX 81 23 iv os.length cs x)(ov:OutV x cs os)(hn:os.length<1000000)(hos:∀ o∈os,o.X.mode<65536∧o.l=[]∧o.E.length<10000000∧∀ e∈o.E,e.2.1<4294967296)
  (w:AN (rP+((pts b3 (.cells ⟨[.slice none 0 0]⟩ 40 (0,0))+0)+(pts b2 (.cells ⟨[.slice none 0 0]⟩ 40 (0,0))+(y+x)))) h)
  (K:∀ nsv ns y h,RdV 18 nsv os.length ns y→TreeV (y+x) ns (os.map (JK N P))→AN (y+x) h→Q (.agg ⟨[nsv]⟩) h) :
  WK Q (Pt b2) (Pt b3) x4 iv (.int .i64 (os.length:Nat)) (.int .i64 ((0:Nat):Int)) h:=by
 have ff:∀ (b o:Nat) (k:Value→Prop),AC o (Pt b) k=k (.pointer (some ⟨b,o,none⟩)):=fun b o k=>by simp only[go_sem]
 unfold WK
 refine Ba (fun mm u h'=>∃ i nsv ns rN y,mm+i=os.length∧u=.int .i64 (i:Nat)∧Vec 63 18 nsv i ns rN∧TreeV (y+x) ns ((os.take i).map (JK N P))∧AN (rP+((pts b3 (.cells ⟨[nsv]⟩ 40 (0,0))+rN)+(pts b2 (.cells ⟨[.slice none 0 0]⟩ 40 (0,0))+(y+x)))) h') os.length ⟨0,.slice none 0 0,[],0,y,rfl,rfl,.nil,.nil,w⟩ ?_
 rintro rec mm u h' ⟨i,nsv,ns,rN,y,hi,rfl,aN,tv,w⟩ hrec
 unfold XX
 rw[AT]
 refine AX (fun hc=>?_) (fun hc=>?_)
 ·have hil:i<os.length:=by omega
  obtain⟨o,ho⟩:∃ o,os[i]? = some o:=⟨_,A00 hil⟩
  obtain⟨cv,ev,xv,xas,hcs,b,c,dd,f⟩:=ov.get ho
  obtain⟨g1,g2,g3,g4⟩:=hos o (A28 ho)
  obtain⟨ca,cc,hcv⟩:=b.len
  obtain⟨⟨ea,ec,hev⟩,_⟩:=c.len
  obtain⟨⟨xa,xc,hxv⟩,_⟩:=dd.len
  have hone:(o.X.cells cv ev xv).all Value.oneCell'=true:=by rw[hcv,hev,hxv];exact XN.one
  have htk:os.take (i+1)=os.take i++[o]:=by rw[A85,ho];rfl
  refine (d.addR.addR.addR.addR:VecX 81 23 iv os.length cs _).agg w hil ?_
  rw[hcs]
  refine Ah w Cy rfl fun b8 h w=>?_
  refine AL w ⟨o.X.cells cv ev xv⟩ (Ar (by rw[XN.size_];exact XN.len)) XN.size_ (by rw[XN.size_];omega) hone fun h w=>?_
  rw[ff]
  refine AW w XN.g1 ?_
  rw[ff]
  refine AW w XN.g2 ?_
  rw[ff]
  refine AW w XN.g3 ?_
  rw[ff]
  refine Ja w (by rw[XN.size_];omega) XN.e8 ?_
  rw[ff]
  refine Ja w (by rw[XN.size_];omega) XN.e10 ?_
  rw[ff]
  refine Ja w (by rw[XN.size_];omega) XN.e12 ?_
  rw[ff]
  refine Ja w (by rw[XN.size_];omega) XN.e14 ?_
  rw[ff]
  refine AW w XN.g16 ?_
  rw[ff]
  refine AW w XN.g17 ?_
  refine Au Ko rfl Ul ?_
  refine Ah w Ko rfl fun b9 h w=>?_
  refine AL w ⟨(TN.mk o.X [] [] []).cells (.slice none 0 0) (.slice none 0 0) (.slice none 0 0) (.slice none 0 0)⟩ (Ar (by rw[A31];exact TN.len)) (by show (List.toArray _).size=18;rw[A31];exact TN.len) (by rw[A31];decide) TN.one fun h w=>?_
  have ss:∀ (l:List Value) (o:Nat) (u:Value),Ai ⟨l⟩ o [u]=⟨l.set o u⟩:=fun l o u=>by rw[A2];rfl
  have hl0:xv=.slice xa 0 xc:=by rw[hxv,g2];rfl
  have rest:∀ (t:TN) (dv:Value) (h:H),t=⟨o.X,t.data,t.link,[]⟩→RdX x dv t.data→t.data=(if kindL o.X.mode=1 then o.C else [])→t.link=(if kindL o.X.mode=7 then o.C else [])→
    AN (pts b9 (.cells ⟨t.cells dv (.slice none 0 0) (.slice none 0 0) (.slice none 0 0)⟩ 63 (0,0))+(pts b8 (.cells ⟨o.X.cells cv ev xv⟩ 81 (0,0))+(rP+((pts b3 (.cells ⟨[nsv]⟩ 40 (0,0))+rN)+(pts b2 (.cells ⟨[.slice none 0 0]⟩ 40 (0,0))+(y+x)))))) h →
    MW Q rec (Pt b2) (Pt b3) x4 (Pt b8) (Pt b9) iv (.int .i64 (os.length:Nat)) (.int .i64 (i:Nat)) h:=by
   intro t dv h ht ddv hda hli w
   unfold MW
   rw[ff]
   refine AW w XN.g20 ?_
   rw[hl0,Aw]
   unfold ABJ
   refine Ba (fun mm u h'=>u=.int .i64 ((0:Nat):Int)∧h'=h) 0 ⟨rfl,rfl⟩ ?_
   rintro rec3 mm3 u3 h3 ⟨rfl,rfl⟩ _
   unfold WX
   have c0:∀ k:Value→Prop,AD .lss (.int .i64 ((0:Nat):Int)) (.int .i64 ((0:Nat):Int)) k=k (.bool false):=fun k=>by rw[AT];rfl
   rw[c0,AU,ff]
   refine AW w XN.g19 ?_
   rw[hev,Aw,←hev]
   have k1:∀ B9 B8 RP A B2 Y X:Res,B9+(B8+(RP+(A+(B2+(Y+X)))))=B9+(RP+((A+B2)+(B8+(Y+X)))):=by intros;ac_rfl
   have k2:∀ RP A B2 Y2 B8 Y X:Res,RP+((A+B2)+(Y2+(B8+(Y+X))))=RP+(A+(B2+((Y2+(B8+Y))+X))):=by intros;ac_rfl
   have k3:∀ Y2 B8 Y X:Res,Y2+(B8+(Y+X))=(Y2+(B8+Y))+X:=by intros;ac_rfl
   refine AGt (t:=t) (nv:=.slice none 0 0) (kv:=.slice none 0 0) a4 hPN hN c.addR.addR g4 g3 (by rw[ht]) (by omega) aN (by omega) (tv.mono:TreeV (pts b8 (.cells ⟨o.X.cells cv ev xv⟩ 81 (0,0))+(y+x)) ns _) ddv.addR.addR rfl rfl (w.cast (k1 _ _ _ _ _ _ _)) fun nsv' rN' cs' y' h aN' tv' w=>?_
   have hnode:({t with ks:=o.E.foldl (Bi N P) []}:TN)=JK N P o:=by
    rw[ht]
    unfold JK
    rw[←hda,←hli]
   rw[hnode,k3] at tv'
   refine hrec (mm-1) _ _ ⟨i+1,nsv',cs',rN',y'+(pts b8 (.cells ⟨o.X.cells cv ev xv⟩ 81 (0,0))+y),by omega,rfl,aN',?_,w.cast (k2 _ _ _ _ _ _ _)⟩ (by omega)
   rw[htk,A36]
   exact tv'
  rw[ff]
  refine AW w XN.g1 ?_
  refine E9 _ _ _ (YT g1 ?_)
  rw[Aa]
  refine AX (fun hk=>?_) (fun hk=>?_)
  ·have hk1:kindL o.X.mode=1:=by omega
   rw[ff]
   refine AW w XN.g18 ?_
   rw[ff]
   refine AL w ⟨(TN.mk o.X o.C [] []).cells cv (.slice none 0 0) (.slice none 0 0) (.slice none 0 0)⟩ (by rw[hcv];exact (ss _ _ _).trans (A76 (fun l=>(⟨l⟩:Array Value)) TN.s13)) (by rw[hcv];rfl) (by rw[A31,TN.len];omega) (by rw[hcv];rfl) fun h w=>?_
   exact rest ⟨o.X,o.C,[],[]⟩ cv h rfl b (by rw[A03 hk1]) (by rw[A05 (by omega)]) w
  ·have hk1:¬kindL o.X.mode=1:=by omega
   rw[Aa]
   refine AX (fun hk7=>?_) (fun hk7=>?_)
   ·have hk7:kindL o.X.mode=7:=by omega
    rw[ff]
    refine AW w XN.g18 ?_
    refine (b.addR.addR.addR.addR.addR.addR:RdX _ cv o.C).str w ?_
    rw[ff]
    refine AL w ⟨(TN.mk o.X [] o.C []).cells (.slice none 0 0) (.slice none 0 0) (.slice none 0 0) (.slice none 0 0)⟩ ((ss _ _ _).trans (A76 (fun l=>(⟨l⟩:Array Value)) TN.s14)) rfl (by rw[A31,TN.len];omega) rfl fun h w=>?_
    exact rest ⟨o.X,[],o.C,[]⟩ _ h rfl (.inl ⟨none,0,rfl,rfl⟩) (by rw[A05 hk1]) (by rw[A03 hk7]) w
   ·have hk7:¬kindL o.X.mode=7:=by omega
    exact rest ⟨o.X,[],[],[]⟩ _ h rfl (.inl ⟨none,0,rfl,rfl⟩) (by rw[A05 hk1]) (by rw[A05 hk7]) w
 ·have:i=os.length:=by omega
  subst this
  rw[A38] at tv
  obtain⟨⟨sa,sc,hsv⟩,_⟩:=aN.len
  refine Cj (b:=b3) w rfl ?_
  refine AL w ⟨[nsv]⟩ (by rw[hsv];rfl) (by rw[hsv];rfl) (by simp) (by rw[hsv];rfl) fun h w=>?_
  refine Cj (b:=b2) w rfl ?_
  have k5:∀ RP B3 RN B2 Y X:Res,RP+((B3+RN)+(B2+(Y+X)))=(RN+(RP+(B3+(B2+Y))))+X:=by intros;ac_rfl
  have k6:∀ RP B3 RN B2 Y X:Res,(RN+(RP+(B3+(B2+Y))))+X=(RN+(RP+(B3+B2)))+(Y+X):=by intros;ac_rfl
  refine K nsv ns _ h aN.rdv.addL ?_ (w.cast (k5 _ _ _ _ _ _))
  rw[k6]
  exact tv.mono
end
end
section
variable {h:H} {k:Value→Prop} {kt Q:Kt} {x y z r:Res} {v:VS}
attribute [local irreducible] TN.cells
attribute [local irreducible] AK Az AQ BB Ae AY AH AM VS.cells XN.cells
theorem Im:∀ (l:List (AA×Nat)) (L:List Nat),(l.foldl (fun l p=>l.set p.1.X.num p.2) L).length=L.length
 | [],_=>rfl
 | p::l,L=>by rw[A71,Im l,A89]
theorem KZ {os:List AA}{L:List Nat}{i:Nat}{o:AA}(h:os[i]? = some o):GC (os.take (i+1)) L=(GC (os.take i) L).set o.X.num i:=by
 have hi:=(A02.1 h).1
 unfold GC
 rw[A85,h]
 show ((os.take i++[o]).zipIdx).foldl _ L=_
 rw[List.zipIdx_append,B19,A20,A30 (by omega),A29]
 rfl
def FE (ipg:Nat)(os:List AA):List Nat:=GC os (List.replicate (ipg+1) 0)
theorem Xb (ipg:Nat)(os:List AA):(FE ipg os).length=ipg+1:=by
 unfold FE GC
 rw[Im,A09]
set_option maxRecDepth 20000 in
theorem s14 {os:List AA}{cs:List Value}(ok:v.OK x)(d:VecX 81 23 v.iv os.length cs x)(ov:OutV x cs os)(hn:os.length<1000000)(hos:∀ o∈os,o.X.mode<65536∧o.l=[]∧o.E.length<10000000∧∀ e∈o.E,e.2.1<4294967296)(hnum:∀ o∈os,o.X.num≤v.ipg)(w:AN (v.res+x) h)
  (K:∀ nsv ns y h,RdV 18 nsv os.length ns y→TreeV (y+(v.res+x)) ns (os.map (JK (v.ipg+1) (FE v.ipg os)))→AN (y+(v.res+x)) h→Q (.agg ⟨[nsv]⟩) h):f14 (Pt v.vb) h Q:=by
 have hip:=ok.ipg
 have ff:∀ (b o:Nat) (k:Value→Prop),AC o (Pt b) k=k (.pointer (some ⟨b,o,none⟩)):=fun b o k=>by simp only[go_sem]
 have nf:∀ (o:Nat) (k:Value→Prop),(AE (Pt v.vb) fun x161=>AC o x161 k)=k (.pointer (some ⟨v.vb,o,none⟩)):=fun o k=>by simp only[go_sem]
 have f1:∀ k:Value→Prop,AD .mul (.int .u64 1) (.int .u64 (v.ipg:Nat)) k=k (.int .u64 (v.ipg:Nat)):=fun k=>by
  rw[Bc,Int.one_mul,CU (by omega)]
 obtain⟨⟨ia,ic,hiv⟩,_⟩:=d.len
 unfold f14
 refine Ah w Re rfl fun b2 h w=>?_
 refine Ah w Re rfl fun b3 h w=>?_
 rw[nf]
 refine AW w VS.g4 ?_
 rw[nf]
 refine AW w VS.g6 ?_
 rw[f1,BN (n:=1),CU (by omega)]
 refine C4 w HL rfl (A07 _) (by omega) (by omega) fun b4 h w=>?_
 rw[nf]
 refine AW w VS.g0 ?_
 rw[hiv,Aw,←hiv]
 have a4:Vec 3 1 (.slice (some ⟨b4,0,none⟩) (v.ipg+1) (v.ipg+1)) (v.ipg+1) (ints (GC (os.take 0) (List.replicate (v.ipg+1) 0))) (pts b4 (.cells ⟨List.replicate (v.ipg+1) (.int .i64 0)⟩ 3 (0,0))):=by
  have:ints (GC (os.take 0) (List.replicate (v.ipg+1) 0))=List.replicate (v.ipg+1) (.int .i64 0):=by
   show ints (List.replicate (v.ipg+1) 0)=_
   unfold ints
   rw[B03];rfl
  rw[this]
  exact .own' (A07 _) (by simp) (by simp)
 unfold ABO
 have k0:∀ B4 B3 B2 V X:Res,B4+(B3+(B2+(V+X)))=B4+(B3+(B2+(0+(V+X)))):=by intros;rw[Res.zero_add]
 refine Ba (fun mm u h'=>∃ i rP y,mm+i=os.length∧u=.int .i64 (i:Nat)∧Vec 3 1 (.slice (some ⟨b4,0,none⟩) (v.ipg+1) (v.ipg+1)) (v.ipg+1) (ints (GC (os.take i) (List.replicate (v.ipg+1) 0))) rP∧AN (rP+(pts b3 (.cells ⟨[.slice none 0 0]⟩ 40 (0,0))+(pts b2 (.cells ⟨[.slice none 0 0]⟩ 40 (0,0))+(y+(v.res+x))))) h') os.length ⟨0,_,0,rfl,rfl,a4,w.cast (k0 _ _ _ _ _)⟩ ?_
 rintro rec mm u h' ⟨i,rP,y,hi,rfl,a4,w⟩ hrec
 unfold VM
 rw[AT]
 refine AX (fun hc=>?_) (fun hc=>?_)
 ·have hil:i<os.length:=by omega
  obtain⟨o,ho⟩:∃ o,os[i]? = some o:=⟨_,A00 hil⟩
  obtain⟨cv,ev,xv,xas,hcs,b,c,dd,f⟩:=ov.get ho
  have hnm:=hnum o (A28 ho)
  obtain⟨ca,cc,hcv⟩:=b.len
  obtain⟨⟨ea,ec,hev⟩,_⟩:=c.len
  obtain⟨⟨xa,xc,hxv⟩,_⟩:=dd.len
  have hone:(o.X.cells cv ev xv).all Value.oneCell'=true:=by rw[hcv,hev,hxv];exact XN.one
  refine (d.addR.addR.addR.addR.addR:VecX 81 23 v.iv os.length cs _).agg w hil ?_
  rw[hcs]
  refine Ah w Cy rfl fun b8 h w=>?_
  refine AL w ⟨o.X.cells cv ev xv⟩ (Ar (by rw[XN.size_];exact XN.len)) XN.size_ (by rw[XN.size_];omega) hone fun h w=>?_
  rw[ff]
  refine AW w XN.g0 ?_
  have k1:∀ B8 RP X:Res,B8+(RP+X)=RP+(B8+X):=by intros;ac_rfl
  refine DS (u:=.int .i64 (i:Nat)) a4 (w.cast (k1 _ _ _)) (by omega) rfl rfl fun rP h a4 w=>?_
  rw[BN (n:=1),Ci (by omega)]
  have hset:(ints (GC (os.take i) (List.replicate (v.ipg+1) 0))).set o.X.num (.int .i64 (i:Nat))=ints (GC (os.take (i+1)) (List.replicate (v.ipg+1) 0)):=by
   rw[KZ ho]
   unfold ints
   rw[B22]
  rw[hset] at a4
  have k2:∀ RP B8 B3 B2 Y X:Res,RP+(B8+(B3+(B2+(Y+X))))=RP+(B3+(B2+((B8+Y)+X))):=by intros;ac_rfl
  exact hrec (mm-1) _ _ ⟨i+1,rP,_,by omega,rfl,a4,w.cast (k2 _ _ _ _ _ _)⟩ (by omega)
 ·have:i=os.length:=by omega
  subst this
  rw[A38] at a4
  rw[nf]
  refine AW w VS.g0 ?_
  rw[hiv,Aw,←hiv]
  have k3:∀ RP B3 B2 Y X:Res,RP+(B3+(B2+(Y+X)))=RP+((B3+0)+(B2+(Y+X))):=by intros;rw[Res.add_zero]
  exact AGC a4 (Xb _ _) (by omega) d.addR ov.mono hn hos (w.cast (k3 _ _ _ _ _)) K
end
section
variable {h:H} {k:Value→Prop} {kt Q:Kt} {x y z r:Res}
attribute [local irreducible] TN.cells
attribute [local irreducible] AK Az AQ BB Ae AY AH AM
inductive FindP (ts:List TN):Nat→List Bs→Nat→Prop
 | nil {a:Nat}:FindP ts a [] a
 | cons {a b c:Nat} {t:TN} {nm:Bs} {l:List Bs}:ts[a]? = some t→kidL t.ks nm=some b→kindB t.X.mode=16384→FindP ts b l c→FindP ts a (nm::l) c
section
variable {ts:List TN} {ns:List Value} {nsv nmv:Value} {names:List Bs} {c:Nat}
set_option maxRecDepth 20000 in
theorem s15 (d:RdV 18 nsv ts.length ns x)(tv:TreeV x ns ts)(hts:∀ t∈ts,t.X.mode<65536∧t.ks.length<1000000000)(dn:RdV 1 nmv names.length (strs names) x)(hl:names.length<1000000000)(fp:FindP ts 0 names c)(w:AN x h)
  (K:∀ y h,AN (y+x) h→Q (.tuple #[.int .i64 (c:Nat),.bool true]) h):f15 (.agg ⟨[nsv]⟩) nmv h Q:=by
 obtain⟨⟨na,nc,hnm⟩,_⟩:=dn.len
 unfold f15
 refine BJ w fun b2 h w=>?_
 have w:AN (pts b2 (.cells ⟨[nsv]⟩ 40 (0,0))+x) h:=w
 have ff:∀ (o:Nat) (k:Value→Prop),AC o (Pt b2) k=k (.pointer (some ⟨b2,o,none⟩)):=fun o k=>by simp only[go_sem]
 rw[hnm,Aw,←hnm]
 unfold ABI
 refine DE (fun mm u0 u1 h'=>∃ i a y,mm+i=names.length∧u0=.int .i64 (a:Nat)∧u1=.int .i64 (i:Nat)∧FindP ts a (names.drop i) c∧AN (pts b2 (.cells ⟨[nsv]⟩ 40 (0,0))+(y+x)) h') names.length ⟨0,0,0,rfl,rfl,rfl,fp,w.cast (by rw[Res.zero_add])⟩ ?_
 rintro rec mm u0 u1 h' ⟨i,a,y,hi,rfl,rfl,fp,w⟩ hrec
 unfold Vh
 rw[AT]
 refine AX (fun hc=>?_) (fun hc=>?_)
 ·have hil:i<names.length:=by omega
  have hg:names[i]? = some names[i]:=A00 hil
  rw[A50 hil] at fp
  cases fp with
  | cons e1 e2 e3 fp=>
   rename_i b t
   obtain⟨dv,nv,kv,q1,q2,q3,q4⟩:=tv.get e1
   obtain⟨g1,g2⟩:=hts t (A28 e1)
   have hal:a<ts.length:=(A02.1 e1).1
   refine (dn.addR.addR:RdV 1 nmv names.length (strs names) _).get w (NX hg) ?_
   rw[ff]
   refine AW w (show (⟨[nsv]⟩:Array Value)[0]? = some nsv from rfl) ?_
   refine (d.addR.addR:RdV 18 nsv ts.length ns _).agg w hal ?_
   rw[q1]
   refine ADr _ _ _ _ (s20 (x:=pts b2 (.cells ⟨[nsv]⟩ 40 (0,0))+(y+x)) TN.g16 TN.g17 TN.len q3.addR.addR q4.addR.addR g2 w fun y2 h w=>?_)
   rw[e2]
   show AO (.tuple #[.int .i64 (b:Nat),.bool true]) 0 _
   rw[DA,DH]
   have k1:∀ Y2 B Y X:Res,Y2+(B+(Y+X))=B+((Y2+Y)+X):=by intros;ac_rfl
   have w:=w.cast (k1 _ _ _ _)
   rw[ff]
   refine AW w (show (⟨[nsv]⟩:Array Value)[0]? = some nsv from rfl) ?_
   refine (d.addR.addR:RdV 18 nsv ts.length ns _).agg w hal ?_
   rw[q1]
   refine AB9 _ _ _ (s31 TN.g0 g1 w fun y3 h w=>?_)
   have c1:∀ k:Value→Prop,AD .neq (.int .u16 (kindB t.X.mode:Nat)) (.int .u16 16384) k=k (.bool false):=fun k=>by
    rw[e3,A3];rfl
   rw[c1,Cr,F1,A91,AU,BN (n:=1),Ci (by omega)]
   exact hrec (mm-1) _ _ _ ⟨i+1,b,y3+(y2+y),by omega,rfl,rfl,fp,w.cast (by
    have k2:∀ Y3 B Z X:Res,Y3+(B+(Z+X))=B+((Y3+Z)+X):=by intros;ac_rfl
    exact k2 _ _ _ _)⟩ (by omega)
 ·have:i=names.length:=by omega
  subst this
  rw[B15] at fp
  cases fp
  exact K (pts b2 (.cells ⟨[nsv]⟩ 40 (0,0))+y) h' (w.cast (Res.assoc _ _ _).symm)
end
end
section
variable {h:H} {k:Value→Prop} {kt Q:Kt} {x y z r:Res}
attribute [local irreducible] TN.cells
attribute [local irreducible] AK Az AQ BB Ae AY AH AM
theorem RdX.one_ {v:Value}{bs:Bs}(d:RdX x v bs):Value.oneCell' v=true:=by
 obtain⟨a,c,h⟩:=d.len
 rw[h];rfl
theorem s38 {v:Value}{bs:Bs}(d:RdX x v bs)(hl:bs.length≤100000000)(w:AN x h)(K:∀ v r h,BufV v bs r→AN (r+x) h→Q v h):f38 v h Q:=by
 unfold f38
 refine CZ (n:=0) (parts:=[]) (l:=[]) w (by omega) rfl rfl fun b h w=>?_
 have bu:BufV (.slice (some ⟨b,0,none⟩) 0 0) [] (buf b []):=.own' (all:=[]) (A07 _) rfl rfl
 exact BU bu w (d.addR.rd w) (by simp;omega) fun v r h b w=>K v r h b w
theorem s64 (K:Q (.slice none 0 0) h):f64 (.slice none 0 0) h Q:=by
 unfold f64
 rw[Aw]
 unfold ABN
 refine DE (fun mm u0 u1 h'=>u0=.slice none 0 0∧u1=.int .i64 ((0:Nat):Int)∧h'=h) 0 ⟨rfl,rfl,rfl⟩ ?_
 rintro rec mm u0 u1 h' ⟨rfl,rfl,rfl⟩ _
 unfold YE
 have c0:∀ k:Value→Prop,AD .lss (.int .i64 ((0:Nat):Int)) (.int .i64 ((0:Nat):Int)) k=k (.bool false):=fun k=>by rw[AT];rfl
 rw[c0,AU]
 exact K
theorem XH (o:Op1)(dv:Value):(⟨o.cells dv⟩:Array Value)[22]? = some (.slice none 0 0)∧(⟨o.cells dv⟩:Array Value)[23]? = some dv:=by cases o<;>exact⟨rfl,rfl⟩
theorem Xo (o:Op1)(dv dv':Value):Ai (⟨o.cells dv⟩:Array Value) 23 [dv']=⟨o.cells dv'⟩∧Ai (⟨o.cells dv⟩:Array Value) 22 [.slice none 0 0]=⟨o.cells dv⟩:=by cases o<;>exact⟨rfl,rfl⟩
theorem Us (l:List U1)(o:U1):FC (l++[o])=FC l++o.1.cells o.2:=by
 unfold FC
 rw[A73,B04]
attribute [local irreducible] Op1.cells
section
variable {l:List U1} {ov:Value}
set_option maxRecDepth 20000 in
theorem s24 (d:RdV 24 ov l.length (FC l) x)(hn:l.length≤10000)(hdat:∀ o∈l,RdX x o.2 o.1.data)(hdl:∀ o∈l,o.1.data.length≤100000000)(w:AN x h)
  (K:∀ out l' r y h,Vec 32 24 out l'.length (FC l') r→l'.map (·.1)=l.map (·.1)→(∀ o∈l',RdX y o.2 o.1.data)→AN (r+(y+x)) h→Q out h):f24 ov h Q:=by
 have ff:∀ (b o:Nat) (k:Value→Prop),AC o (Pt b) k=k (.pointer (some ⟨b,o,none⟩)):=fun b o k=>by simp only[go_sem]
 have ff2:∀ (b o p:Nat) (k:Value→Prop),AC p (.pointer (some ⟨b,o,none⟩)) k=k (.pointer (some ⟨b,o+p,none⟩)):=fun b o p k=>by rw[DW,Bm]
 obtain⟨⟨va,vc,hv⟩,_⟩:=d.len
 unfold f24
 rw[hv,Aw,←hv]
 unfold ABD
 refine DE (fun mm u0 u1 h'=>∃ i l' r y,mm+i=l.length∧u1=.int .i64 (i:Nat)∧l'.length=i∧Vec 32 24 u0 i (FC l') r∧l'.map (·.1)=(l.take i).map (·.1)∧(∀ o∈l',RdX y o.2 o.1.data)∧AN (r+(y+x)) h') l.length ⟨0,[],0,0,rfl,rfl,rfl,.nil,rfl,by simp,w.cast (by rw[Res.zero_add,Res.zero_add])⟩ ?_
 rintro rec mm u0 u1 h' ⟨i,l',r,y,hi,rfl,hl',a,hm,hd,w⟩ hrec
 unfold Wq
 rw[AT]
 refine AX (fun hc=>?_) (fun hc=>?_)
 ·have hil:i<l.length:=by omega
  obtain⟨o,ho⟩:∃ o,l[i]? = some o:=⟨_,A00 hil⟩
  have hmem:=A28 ho
  have dd:=hdat o hmem
  refine (d.addR.addR:RdV 24 ov l.length (FC l) _).agg w hil ?_
  rw[TI l i o ho]
  refine Ah w Fy rfl fun b5 h w=>?_
  have hone:=Op1.cells_one o.1 o.2 dd.one_
  refine AL w ⟨o.1.cells o.2⟩ (NO o.1 o.2) (by show (List.toArray _).size=24;rw[A31,Op1.cells_len]) (by rw[A31,Op1.cells_len];omega) hone fun h w=>?_
  rw[ff]
  refine AW w (XH o.1 o.2).2 ?_
  rw[ff,ff2]
  refine AW w (XH o.1 o.2).1 ?_
  refine ADL _ _ _ (s38 (dd.addR.addR.addR) (hdl o hmem) w fun dv' rd h b w=>?_)
  refine And.intro (AW w (XH o.1 o.2).1 rfl) ?_
  rw[ff]
  refine ADn _ _ _ (s64 ?_)
  have hone2:Value.oneCell' dv'=true:=b.rdX.one_
  obtain⟨ba,bc2,hdv'⟩:=b.rdX.len
  refine AL w ⟨o.1.cells dv'⟩ (by rw[hdv'];exact (Xo o.1 o.2 _).1) (by rw[hdv'];rfl) (by rw[A31,Op1.cells_len];omega) (by rw[hdv'];rfl) fun h w=>?_
  rw[ff,ff2]
  refine AL w ⟨o.1.cells dv'⟩ (Xo o.1 dv' dv').2 rfl (by rw[A31,Op1.cells_len];omega) rfl fun h w=>?_
  refine Cj w (Op1.cells_len _ _) ?_
  have k1:∀ RD B R Y X:Res,RD+(B+(R+(Y+X)))=R+(B+(RD+(Y+X))):=by intros;ac_rfl
  refine CW a (w.cast (k1 _ _ _ _ _)) Fy (by show (List.toArray _).size=24;rw[A31,Op1.cells_len]) (Op1.cells_len _ _) (by omega) (by omega) (Op1.cells_one o.1 dv' hone2) fun b9 h w=>?_
  refine B0 a w Fy (by show (List.toArray _).size=24;rw[A31,Op1.cells_len]) (Op1.cells_len _ _) (Op1.cells_one o.1 dv' hone2) (by omega) (by omega) fun out r h a w=>?_
  rw[BN (n:=1),Ci (by omega)]
  have k2:∀ R B RD Y X:Res,R+(B+(RD+(Y+X)))=R+((RD+(B+Y))+X):=by intros;ac_rfl
  refine hrec (mm-1) _ _ _ ⟨i+1,l'++[(o.1,dv')],r,_,by omega,rfl,by rw[A01,hl'];rfl,by rw[Us];exact a,?_,?_,w.cast (k2 _ _ _ _ _)⟩ (by omega)
  ·rw[A36,hm,A85,ho,A36];rfl
  ·intro p hp
   rcases A88.1 hp with h1|h1
   ·exact (hd p h1).addR.addR
   ·rw[A78] at h1
    subst h1
    exact b.rdX.addL
 ·have:i=l.length:=by omega
  subst this
  rw[A38] at hm
  exact K _ l' r y h' (by rw[hl'];exact a) hm hd w
end
attribute [local irreducible] Bp Db setL Bz JQ Pp FD Dl BS DY
section
variable {wb db:Nat} {inl:Bool} {l:List U1} {ov:Value} {ro rd:Res}
set_option maxRecDepth 20000 in
theorem AH3 {n:Nat}{G:Bs→Prop}(dop:Vec 32 24 ov n (FC l) ro)(hn:l.length=n)(hn2:n≤10000)(hone:∀ o∈l,Value.oneCell' o.2=true)(hdat:∀ o∈l,RdX rd o.2 o.1.data)(hdl:∀ o∈l,o.1.data.length≤100000000)
  (st:∀ db,∃ SE S,Steps (l.map (·.1)) (S2 [] inl EA db) SE∧He SE S∧S.db=db∧G (BS S)) (g:JX x) (w:AN (ro+(rd+x)) h)
  (K:∀ B out dv dr y h,G B→BufV dv B dr→AN (dr+(y+(ro+(rd+x)))) h→Q (.tuple #[out,.int .i64 0,dv]) h):f23 (.bool inl) (.int .i64 ((0:Nat):Int)) ov h Q:=by
 obtain⟨⟨oa,oc,hov⟩,_⟩:=dop.len
 unfold f23
 refine Au Z8 rfl (rs:=[.slice none 0 0,.int .i64 ((0:Nat):Int)]) rfl (BJ w fun db h w=>?_)
 have w:AN (pts db (.cells ⟨[.slice none 0 0,.int .i64 ((0:Nat):Int)]⟩ 121 (0,0))+(ro+(rd+x))) h:=w
 refine ADP _ _ _ ?_
 unfold f52
 refine BJ w fun mb h w=>?_
 have w:AN (pts mb (.cells ⟨[.int .i64 ((0:Nat):Int)]⟩ 2 (0,0))+(pts db (.cells ⟨[.slice none 0 0,.int .i64 ((0:Nat):Int)]⟩ 121 (0,0))+(ro+(rd+x)))) h:=w
 have rest:∀ (opv:Value) (r:Res) (h:H),Vec 123 1 opv (JV mb inl).length (JV mb inl) r→AN (r+(pts mb (.cells ⟨[.int .i64 ((0:Nat):Int)]⟩ 2 (0,0))+(pts db (.cells ⟨[.slice none 0 0,.int .i64 ((0:Nat):Int)]⟩ 121 (0,0))+(ro+(rd+x))))) h→Oy Q ov (Pt db) opv h:=by
  intro opv r h dopt w
  unfold Oy
  have k1:∀ R M D X:Res,R+(M+(D+X))=D+(M+(R+X)):=by intros;ac_rfl
  refine ACy _ _ _ _ (s54 dopt (w.cast (k1 _ _ _ _)) fun wb h fr=>?_)
  obtain⟨SE,S,h1,h2,h3,h4⟩:=st db
  rw[hov,Aw,←hov]
  exact AF6 dop hn hn2 hone hdat hdl h1 h2 h3 g (.inl ⟨rfl,fr⟩) fun out dv dr y h b w=>K (BS S) out dv dr y h h4 b w
 show AH (.arr 1) 123 (AG TP 123) 1 1 [(0,.func (.func 90) #[] #[Pt mb])] h _
 refine G5 w T6 rfl rfl rfl fun fb h w=>?_
 have d1:Vec 123 1 (.slice (some ⟨fb,0,none⟩) 1 1) 1 [.func (.func 90) #[] #[Pt mb]] (pts fb (.cells ⟨[.func (.func 90) #[] #[Pt mb]]⟩ 123 (0,0))):=.own' (A07 _) rfl rfl
 cases inl with
 | false=>
  rw[AU]
  exact rest _ _ h d1 w
 | true=>
  rw[Ak]
  exact EY d1 w T6 rfl rfl rfl (by decide) (by decide) fun opv r h d w=>rest opv r h d w
def Xp (P:List AA→Nat→Prop)(B:Bs):Prop:=∃ nb ipg o0 o' T os kk,PH B nb ipg o0 o' T os kk∧P os ipg
attribute [local irreducible] VS.cells XN.cells
theorem s13 {P:List AA→Nat→Prop}(d:RdV 24 ov l.length (FC l) x)(hn:l.length≤10000)(hdat:∀ o∈l,RdX x o.2 o.1.data)(hdl:∀ o∈l,o.1.data.length≤100000000)
  (st:∀ db,∃ SE S,Steps (l.map (·.1)) (S2 [] inl EA db) SE∧He SE S∧S.db=db∧Xp P (BS S)) (g:JX x) (w:AN x h)
  (K:∀ (v:VS) os cs z h,VecX 81 23 v.iv os.length cs z→OutV z cs os→v.OK (z+x)→P os v.ipg→(∀ o∈os,1≤o.X.num∧o.X.num≤v.ipg∧o.X.mode<65536)→os.length<1000000→AN (v.res+(z+x)) h→Q (.tuple #[Pt v.vb,.bool true]) h) :
  f13 (.bool inl) (.int .i64 0) ov h Q:=by
 unfold f13
 refine ADU _ _ _ (s24 d hn hdat hdl w fun out l' r y h a hm hd w=>?_)
 have hl':l'.length=l.length:=by have:=A76 List.length hm;simpa using this
 have hdl':∀ o∈l',o.1.data.length≤100000000:=fun o ho=>by
  have:o.1∈l.map (·.1):=by rw[←hm];exact A35.2 ⟨o,ho,rfl⟩
  obtain⟨p,hp,he⟩:=A35.1 this
  rw[←he];exact hdl p hp
 refine AB2 _ _ _ _ _ (AH3 (rd:=y) a rfl (by omega) (fun o ho=>(hd o ho).one_) hd hdl' (by rw[hm];exact st) g w fun B out2 dv dr y2 h hG b w=>?_)
 rw[DA,DH,Un]
 have c0:∀ k:Value→Prop,AD .neq (.int .i64 0) (.int .i64 0) k=k (.bool false):=fun k=>by rw[A3];rfl
 rw[c0,AU]
 obtain⟨nb,ipg,o0,o',T,os,kk,hi,hP⟩:=hG
 refine ABi _ _ _ (s25 hi b.rdX.addL w fun v z y3 h cs dv2 ov2 ok hI hip w=>?_)
 have nf:∀ (o:Nat) (k:Value→Prop),(AE (Pt v.vb) fun x161=>AC o x161 k)=k (.pointer (some ⟨v.vb,o,none⟩)):=fun o k=>by simp only[go_sem]
 rw[nf]
 refine AW w VS.g2 ?_
 have c1:∀ k:Value→Prop,AD .eql (.int .i64 ((0:Nat):Int)) (.int .i64 0) k=k (.bool true):=fun k=>by rw[Aa];rfl
 rw[Aw,c1]
 have k1:∀ V Y3 Z DR Y2 R Y X:Res,V+(Y3+(Z+(DR+(Y2+(R+(Y+X))))))=V+((Y3+(Z+(DR+(Y2+(R+Y)))))+X):=by intros;ac_rfl
 have k2:∀ Y3 Z DR Y2 R Y X:Res,Y3+(Z+(DR+(Y2+(R+(Y+X)))))=(Y3+(Z+(DR+(Y2+(R+Y)))))+X:=by intros;ac_rfl
 have ok2:v.OK (y3+(z+(dr+(y2+(r+(y+x)))))):=ok.mono
 rw[k2] at ok2
 refine K v os cs _ h dv2.addL.addR ov2.addL.mono ok2 (by rw[hip];exact hP) (fun o ho=>by rw[hip];exact hi.num o ho) (by rw[hi.walk.len];exact hi.walk.nlt) (w.cast (k1 _ _ _ _ _ _ _ _))
end
end
section
variable {h:H} {k:Value→Prop} {kt Q:Kt} {x y z r:Res}
attribute [local irreducible] AK Az AQ BB Ae AY AH AM
def Cn (n:Nat):Bs:=if n<10 then [UInt8.ofNat (48+n)] else Cn (n/10)++[UInt8.ofNat (48+n%10)]
termination_by n
decreasing_by omega
theorem IC {n:Nat}(h:n<10):Cn n=[UInt8.ofNat (48+n)]:=by rw[Cn,A03 h]
theorem Hn {n:Nat}(h:¬n<10):Cn n=Cn (n/10)++[UInt8.ofNat (48+n%10)]:=by rw[Cn,A05 h]
theorem GM:∀ m n,n<10^m→(Cn n).length≤m+1
 | 0,n,h=>by
  have:n=0:=by omega
  subst this
  rw[IC (by omega)];simp
 | m+1,n,h=>by
  by_cases hc:n<10
  ·rw[IC hc];simp
  ·rw[Hn hc,A01]
   have:=GM m (n/10) (by rw[Nat.pow_succ] at h;omega)
   simp;omega
theorem KW {c:Nat}(hc:c<256)(w:AN x h)(K:∀ b h,AN (buf b [UInt8.ofNat c]+x) h→kt (.slice (some ⟨b,0,none⟩) 1 1) h):AH (.arr 1) 5 (AG TP 5) 1 1 [(0,.int .u8 (c:Nat))] h kt:=by
 refine CZ (n:=1) (l:=[UInt8.ofNat c]) w (by omega) ?_ rfl K
 have:(.int .u8 (c:Nat):Value)=bc (UInt8.ofNat c):=by rw[bc];simp;omega
 rw[this];rfl
theorem s27:∀ (n:Nat),n<1000000→∀ (x:Res) (h:H) (Q:Kt),AN x h→(∀ y h,AN (y+x) h→Q (str (Cn n)) h)→f27 (.int .i64 (n:Nat)) h Q:=by
 intro n
 induction n using Nat.strongRecOn with
 | ind n ih=>
  intro hn x h Q w K
  unfold f27
  rw[AT]
  refine AX (fun hc=>?_) (fun hc=>?_)
  ·have hlt:n<10:=by omega
   have e1:∀ k:Value→Prop,AD .add (.int .i64 48) (.int .i64 (n:Nat)) k=k (.int .i64 (48+n:Nat)):=fun k=>by
    have:=F2 (kk:=.i64) (a:=48) (b:=n) (k:=k)
    rw[Ci (by omega)] at this
    exact this
   rw[e1,DO,wu8 (by omega)]
   refine KW (by omega) w fun b h w=>?_
   refine (BufV.own' (b:=b) (all:=[UInt8.ofNat (48+n)]) (n:=1) (A07 _) rfl rfl:BufV _ [UInt8.ofNat (48+n)] _).rdX.addL.str w ?_
   have:=K _ h w
   rw[IC hlt] at this
   exact this
  ·have hge:¬n<10:=by omega
   have e1:∀ k:Value→Prop,AD .add (.int .i64 48) (.int .i64 (n%10:Nat)) k=k (.int .i64 (48+n%10:Nat)):=fun k=>by
    have:=F2 (kk:=.i64) (a:=48) (b:=n%10) (k:=k)
    rw[Ci (by omega)] at this
    exact this
   rw[Rb (n:=10) (by decide),Ci (by omega),LI (n:=10) (by decide),e1,DO,wu8 (by omega)]
   have hq:=ih (n/10) (by omega) (by omega)
   have hll:=GM 6 (n/10) (by omega)
   refine And.intro ?_ ?_
   ·refine Mw _ _ _ (hq x h _ w fun y h w=>?_)
    refine KW (by omega) w fun b h w=>?_
    refine (BufV.own' (b:=b) (all:=[UInt8.ofNat (48+n%10)]) (n:=1) (A07 _) rfl rfl:BufV _ [UInt8.ofNat (48+n%10)] _).rdX.addL.str w ?_
    rw[H9 (by simp;omega)]
    have:=K _ h (w.cast (Res.assoc _ _ _).symm)
    rw[Hn hge] at this
    exact this
   ·refine KW (by omega) w fun b h w=>?_
    have rd:=(BufV.own' (b:=b) (all:=[UInt8.ofNat (48+n%10)]) (n:=1) (A07 _) rfl rfl:BufV _ [UInt8.ofNat (48+n%10)] _).rdX
    refine rd.addL.str w ?_
    refine Mw _ _ _ (hq _ h _ w fun y h w=>?_)
    refine And.intro (rd.addL.addR.str w rfl) ?_
    rw[H9 (by simp;omega)]
    have:=K _ h (w.cast (Res.assoc _ _ _).symm)
    rw[Hn hge] at this
    exact this
def Na (x:Res)(vs:List Value)(fs:List Bs):Prop:=vs.length=fs.length∧∀ (i:Nat) (b:Bs),fs[i]? = some b→∃ v,vs[i]? = some v∧RdX x v b
theorem Na.addR {vs:List Value}{fs:List Bs}(d:Na x vs fs):Na (y+x) vs fs:=⟨d.1,fun i b h=>by obtain⟨v,h1,h2⟩:=d.2 i b h;exact⟨v,h1,h2.addR⟩⟩
section
variable {fv:Value} {vs:List Value} {fs:List Bs}
theorem s26 (d:RdV 1 fv fs.length vs x)(f:Na x vs fs)(hn:fs.length≤2000000000)(hl:∀ b∈fs,b.length≤2000000000)(w:AN x h)(K:Q (.bool true) h):f26 fv h Q:=by
 obtain⟨⟨va,vc,hv⟩,_⟩:=d.len
 have hg:∀ n:Nat,n≤2000000000→∀ k:Value→Prop,AD .gtr (.int .i64 (n:Nat)) (.int .i64 2147483647) k=k (.bool false):=fun n hn k=>by rw[Ao,A08 (by omega)]
 unfold f26
 rw[hv,Aw,hg _ hn,AU,Aw,←hv]
 unfold ABR
 refine Ba (fun mm u h'=>h'=h∧∃ i,mm+i=fs.length∧u=.int .i64 (i:Nat)) fs.length ⟨rfl,0,rfl,rfl⟩ ?_
 rintro rec mm u h' ⟨rfl,i,hi,rfl⟩ hrec
 unfold Vf
 rw[AT]
 refine AX (fun hc=>?_) (fun hc=>K)
 have hil:i<fs.length:=by omega
 obtain⟨b,hb⟩:∃ b,fs[i]? = some b:=⟨_,A00 hil⟩
 obtain⟨v,h1,h2⟩:=f.2 i b hb
 obtain⟨a,c,hbv⟩:=h2.len
 refine d.get w h1 ?_
 rw[hbv,Aw,hg _ (hl b (A28 hb)),AU,BN (n:=1),Ci (by omega)]
 exact hrec (mm-1) _ _ ⟨rfl,i+1,by omega,rfl⟩ (by omega)
end
end
section
open Go Go.ChangeShapes Go.WideShapes
def allR (h:H):Res:=fun b=>match h[b]? with|some o=>.one o|none=>.no
theorem YW (h:H):AN (allR h) h:=fun b=>by
 unfold allR
 cases hb:h[b]? with
 | none=>trivial
 | some o=>exact rfl
theorem U8 {h:H}{b:Nat}{o:Obj}(hb:h[b]? = some o):∃ y,allR h=pts b o+y:=by
 let z:Res:=fun i=>if i=b then .no else allR h i
 refine⟨z,?_⟩
 funext i
 show allR h i=(pts b o i).add (if i=b then .no else allR h i)
 unfold pts
 by_cases hi:i=b
 ·subst hi
  simp only[if_true]
  unfold allR
  rw[hb];rfl
 ·simp only[hi,if_false]
  rfl
theorem Wu {h h':H}{y:Res}(w:AN (y+allR h) h'){b:Nat}{o:Obj}(hb:h[b]? = some o):h'[b]? = some o:=by
 have:=w.right b
 unfold allR at this
 rw[hb] at this
 exact this
theorem Wm {K:Type}(d:DataW K):1≤Rows.uptoBulk d:=by
 cases d with
 | lit l=>cases l<;>simp[Rows.uptoBulk]
 | nil=>simp[Rows.uptoBulk]
 | ptr d=>simp[Rows.uptoBulk]
 | slice elems spare=>simp[Rows.uptoBulk]
 | agg parts=>simp[Rows.uptoBulk]
 | iface t d=>simp[Rows.uptoBulk]
 | map entries=>simp[Rows.uptoBulk]
 | held h=>simp[Rows.uptoBulk]
theorem L5 {K:Type}{d:DataW K}{l:List (DataW K)}(h:d∈l):Rows.uptoBulk d≤Rows.uptoBulkAll l:=by
 induction l with
 | nil=>cases h
 | cons x r ih=>
  simp only[Rows.uptoBulkAll]
  rcases A32.1 h with e|e
  ·subst e;omega
  ·have:=ih e;omega
theorem OM {K:Type}(l:List (DataW K)):l.length≤Rows.uptoBulkAll l:=by
 induction l with
 | nil=>simp[Rows.uptoBulkAll]
 | cons x r ih=>have:=Wm x;simp only[Rows.uptoBulkAll,A19];omega
section
variable {K:Type} {enc:TypeId×Value→K} {w:World} {base:Nat} {sp:Nat→Bool} {held:Bool} {fuel:Nat} {t e:TypeId} {v:Value} {d:DataW K} {p:List MemPlace}
theorem cells_one {a:Addr}{c:List Value}(h:w.cells? base a 1=some c):∃ u,c=[u]∧w.cell? a=some u:=by
 unfold World.cells? at h
 split at h
 ·have e0:a.add 0=a:=by simp[Addr.add]
  simp only[List.range_succ,List.range_zero,A34,List.mapM_cons,List.mapM_nil,e0] at h
  cases hcc:w.cell? a with
  | none=>simp[hcc] at h
  | some c=>simp[hcc] at h;exact⟨c,h.symm,rfl⟩
 ·cases h
theorem Kf (ht:TP.underlying t=some (.slice e))(he:TP.cellsOf e=1)(h:DataW.trod enc TP w base sp held fuel t [v]=some (d,p)) :
  ∃ (vs:List Value) (ds:List (DataW K)),RdV 1 v vs.length vs (allR w.heap)∧vs.length=ds.length∧(∀ (i:Nat) (u:Value),vs[i]? = some u→∃ di n q,ds[i]? = some di∧DataW.trod enc TP w base sp held n e [u]=some (di,q))∧Rows.uptoBulkAll ds≤Rows.uptoBulk d:=by
 rcases DataW.trod_slice ht h with⟨h1,h2⟩|⟨a,len,cap,elems,rest,n,_,h1,h2,_,hle,_,hlen,hel,_⟩
 ·simp only[List.cons.injEq,and_true] at h1
  exact⟨[],[],.inl ⟨none,0,h1,rfl,rfl⟩,rfl,fun i u hu=>by simp at hu,by show 0≤_;omega⟩
 ·simp only[List.cons.injEq,and_true] at h1
  simp only[Prod.mk.injEq] at h2
  obtain⟨h2,_⟩:=h2
  have hb:Rows.uptoBulkAll (elems.map (·.1))≤Rows.uptoBulk d:=by
   rw[h2];simp only[Rows.uptoBulk];omega
  have hcell:∀ i,i<len→∃ u y,w.cell? (a.add i)=some u∧elems[i]? = some y∧DataW.trod enc TP w base sp held n e [u]=some y:=fun i hi=>by
   have hE:=hel i hi
   rw[he,A67] at hE
   obtain⟨y,hy⟩:∃ y,elems[i]? = some y:=⟨_,A00 (by omega)⟩
   rw[hy] at hE
   simp only[Option.bind_eq_some_iff] at hE
   obtain⟨c1,hc1,hy1⟩:=hE
   obtain⟨u,rfl,hu⟩:=cells_one hc1
   exact⟨u,y,hu,hy,hy1⟩
  by_cases h0:len=0
  ·subst h0
   exact⟨[],[],.inl ⟨some a,cap,h1,rfl,rfl⟩,rfl,fun i u hu=>by simp at hu,by show 0≤_;omega⟩
  ·obtain⟨b,o,spt⟩:=a
   have hblk:spt=none∧∃ c T fz,w.heap[b]? = some (.cells c T fz):=by
    obtain⟨u,y,hu,_⟩:=hcell 0 (by omega)
    have e0:(⟨b,o,spt⟩:Addr).add 0=⟨b,o,spt⟩:=by simp[Addr.add]
    rw[e0] at hu
    unfold World.cell? at hu
    split at hu
    ·rename_i c T fz hb
     split at hu
     ·cases hu
     ·rename_i hs
      exact⟨by simpa using hs,c,T,fz,hb⟩
    ·cases hu
   obtain⟨rfl,c,T,fz,hb2⟩:=hblk
   have hget:∀ i,i<len→∃ u y,c[o+i]? = some u∧elems[i]? = some y∧DataW.trod enc TP w base sp held n e [u]=some y:=fun i hi=>by
    obtain⟨u,y,hu,hy⟩:=hcell i hi
    rw[Bm] at hu
    unfold World.cell? at hu
    simp only[hb2,A86,A45,if_false] at hu
    exact⟨u,y,hu,hy⟩
   have hsz:o+len≤c.toList.length:=by
    obtain⟨u,y,hu,_⟩:=hget (len-1) (by omega)
    have:=(A46.1 hu).1
    rw[B21];omega
   have hvl:((c.toList.drop o).take len).length=len:=by rw[A20,A27];omega
   obtain⟨y,hy⟩:=U8 hb2
   refine⟨(c.toList.drop o).take len,elems.map (·.1),.inr ⟨b,o,cap,c.toList,T,fz,y,by rw[hvl];exact h1,by rw[hy],by rw[hvl,A67];exact hsz,by rw[hvl,A67],by rw[hvl];exact hle⟩,by rw[hvl,A25,hlen],fun i u hu=>?_,hb⟩
   have hi:i<len:=by have:=(A02.1 hu).1;omega
   obtain⟨u',y',h3,h4,h5⟩:=hget i hi
   rw[A41,A03 hi,A53,Array.getElem?_toList,h3,A26] at hu
   subst hu
   exact⟨y'.1,n,y'.2,by rw[A21,h4];rfl,by rw[h5]⟩
theorem AAq (ht:TP.underlying t=some (.int .u8))(h:DataW.trod enc TP w base sp held fuel t [v]=some (d,p)):∃ b,v=bc b:=by
 cases fuel with
 | zero=>simp[DataW.trod] at h
 | succ n=>
  cases v<;>simp[DataW.trod,ht] at h
  rename_i k m
  obtain⟨⟨rfl,hw⟩,_⟩:=h
  have hb:=bounds_u8 hw
  have e:((UInt8.ofNat m.toNat).toNat:Int)=m:=by rw[B09];omega
  refine⟨UInt8.ofNat m.toNat,?_⟩
  show _=Value.int .u8 ((UInt8.ofNat m.toNat).toNat:Int)
  rw[e]
theorem SY {α β:Type}{f:β→α}:∀ {l:List α},(∀ a∈l,∃ b,a=f b)→∃ m:List β,l=m.map f
 | [],_=>⟨[],rfl⟩
 | a::l,h=>by
  obtain⟨b,hb⟩:=h a (A13 ..)
  obtain⟨m,hm⟩:=SY fun x hx=>h x (A16 _ hx)
  exact⟨b::m,by rw[hb,hm];rfl⟩
theorem RdV.rdx {x:Res}{bs:Bs}(r:RdV 1 v bs.length (bs.map bc) x):RdX x v bs:=by
 rcases r with⟨a,c,h1,h2,h3⟩|⟨b,o,c,all,T,fz,y,h1,h2,h3,h4,h5⟩
 ·have:bs=[]:=List.eq_nil_of_length_eq_zero h2
  exact .inl ⟨a,c,by rw[h1],this⟩
 ·exact .inr ⟨b,o,c,all,T,fz,y,h1,h2,by omega,by rw[←h4,A67],h5⟩
theorem Qk (ht:TP.underlying t=some (.slice e))(hu:TP.underlying e=some (.int .u8))(he:TP.cellsOf e=1)(h:DataW.trod enc TP w base sp held fuel t [v]=some (d,p)):∃ bs,RdX (allR w.heap) v bs∧bs.length≤Rows.uptoBulk d:=by
 obtain⟨vs,ds,r,hl,hg,hb⟩:=Kf ht he h
 obtain⟨bs,rfl⟩:∃ bs:Bs,vs=bs.map bc:=SY fun a ha=>by
  obtain⟨i,hi,rfl⟩:=B00 ha
  obtain⟨di,n,q,_,h2⟩:=hg i _ (A00 hi)
  exact AAq hu h2
 rw[A25] at r hl
 have:=OM ds
 exact⟨bs,r.rdx,by omega⟩
theorem Se {α:Type}{P:Nat→α→Prop}:∀ (n:Nat),(∀ i,i<n→∃ a,P i a)→∃ l:List α,l.length=n∧∀ (i:Nat) (a:α),l[i]? = some a→P i a
 | 0,_=>⟨[],rfl,fun i a h=>by simp at h⟩
 | n+1,h=>by
  obtain⟨l,h1,h2⟩:=Se n fun i hi=>h i (by omega)
  obtain⟨a,ha⟩:=h n (by omega)
  refine⟨l++[a],by rw[A01,h1];rfl,fun i b hb=>?_⟩
  by_cases hi:i<n
  ·rw[A18 (by omega)] at hb
   exact h2 i b hb
  ·have hil:=(A02.1 hb).1
   rw[A01,A57] at hil
   have:i=n:=by omega
   subst this
   rw[A17 (by omega),h1,A87] at hb
   simp only[A51,A26] at hb
   subst hb;exact ha
end
end
section
open Go Go.ChangeShapes Go.WideShapes
theorem ty4:TP.underlying 4=some .bool:=by kernel_rfl
theorem ty5:TP.underlying 5=some (.int .u8):=by kernel_rfl
theorem ty9:TP.underlying 9=some .string:=by kernel_rfl
theorem AHe:TP.underlying 30=some (.slice 5):=by kernel_rfl
theorem AGM:TP.underlying 342=some (.array 7 341):=by kernel_rfl
theorem ce5:TP.cellsOf 5=1:=by kernel_rfl
theorem ce9:TP.cellsOf 9=1:=by kernel_rfl
theorem AA5:TP.cellsOf 341=2:=by kernel_rfl
section
variable {K:Type} {enc:TypeId×Value→K} {w:World} {base:Nat} {sp:Nat→Bool} {held:Bool} {fuel:Nat} {t e:TypeId} {v:Value} {d:DataW K} {p:List MemPlace}
theorem Qy {k:IntKind}{n:Int}(ht:TP.underlying t=some (.int k))(h:DataW.trod enc TP w base sp held fuel t [v]=some (.lit (.int k n),p)):v=.int k n:=by
 cases fuel with
 | zero=>simp[DataW.trod] at h
 | succ m=>
  cases v<;>simp[DataW.trod,ht] at h
  rename_i k' n'
  obtain⟨⟨rfl,_⟩,rfl,_⟩:=h
  rfl
theorem RB {l:Bs}(ht:TP.underlying t=some .string)(h:DataW.trod enc TP w base sp held fuel t [v]=some (.lit (.string l),p)):v=str l:=by
 cases fuel with
 | zero=>simp[DataW.trod] at h
 | succ m=>
  cases v<;>simp[DataW.trod,ht] at h
  rename_i s
  obtain⟨_,rfl,_⟩:=h
  rfl
set_option maxRecDepth 100000 in
theorem Z7 {cs:List Value}{n:Int}{l:Bs}(h:DataW.trod enc TP w base sp held fuel 341 cs=some (.agg [.lit (.int .u8 n),.lit (.string l)],p)):cs=[.int .u8 n,str l]:=by
 obtain⟨y0,y1,m,hx,hl,h0,h1⟩:=trod_struct2 Tryz.underlying341 h
 rw[AA5] at hl
 match cs,hl with
 | [c0,c1],_=>
  simp only[Prod.mk.injEq,DataW.agg.injEq,List.cons.injEq,and_true] at hx
  obtain⟨⟨e0,e1⟩,_⟩:=hx
  have g0:DataW.trod enc TP w base sp held m 5 [c0]=some y0:=by
   rw[←h0]
   show _=DataW.trod enc TP w base sp held m 5 (([c0,c1].drop 0).take (TP.cellsOf 5))
   rw[ce5];rfl
  have g1:DataW.trod enc TP w base sp held m 9 [c1]=some y1:=by
   rw[←h1]
   show _=DataW.trod enc TP w base sp held m 9 (([c0,c1].drop 1).take (TP.cellsOf 9))
   rw[ce9];rfl
  have f0:y0=(.lit (.int .u8 n),y0.2):=by rw[e0]
  have f1:y1=(.lit (.string l),y1.2):=by rw[e1]
  rw[f0] at g0
  rw[f1] at g1
  rw[Qy ty5 g0,RB ty9 g1]
end
def pxD {K:Type}(q:Nat×Bs):DataW K:=.agg [.lit (.int .u8 (q.1:Nat)),.lit (.string q.2)]
set_option maxRecDepth 100000 in
theorem Zn {K:Type}:(Rows.laid_pub_marram_pub_hcsshim_ext4_inner_compactext4_xattrPrefixes:DataW K)=.agg (PX.map pxD):=rfl
set_option maxRecDepth 100000 in
theorem ADS {W:World}(h:laidMet TP [("pub-marram/pub/hcsshim/ext4/inner/compactext4.xattrPrefixes",Rows.laid_pub_marram_pub_hcsshim_ext4_inner_compactext4_xattrPrefixes)] W):JX (allR W.heap):=by
 obtain⟨ps,⟨g,t,cs,fuel,p,q,hg,ht,hvar,hd,_,_⟩,_⟩:=h
 have hg4 : TP.globalNamed "pub-marram/pub/hcsshim/ext4/inner/compactext4.xattrPrefixes" = some 4:=by kernel_rfl
 have ht4:(TP.globals[4]?).map (·.type)=some 342:=by kernel_rfl
 obtain rfl:4=g:=A14 (hg4.symm.trans hg)
 obtain rfl:342=t:=A14 (ht4.symm.trans ht)
 unfold World.var? at hvar
 rw[hg4] at hvar
 simp only[Option.bind_some] at hvar
 split at hvar
 ·rename_i c T fz hb
  simp only[A26] at hvar
  subst hvar
  obtain⟨y,hy⟩:=U8 hb
  refine⟨c,T,fz,y,hy,fun i hi=>?_⟩
  rw[Zn] at hd
  obtain⟨xs,m,_,hx,hl,hlen,hel⟩:=DataW.trod_array AGM hd
  simp only[Prod.mk.injEq,DataW.agg.injEq] at hx
  obtain⟨hx,_⟩:=hx
  rw[AA5] at hel
  have hj:∀ j (r:Nat×Bs),PX[j]? = some r→(c.toList.drop (j*2)).take 2=[.int .u8 (r.1:Nat),str r.2]:=fun j r hr=>by
   have hjl:j<7:=(A02.1 hr).1
   have h1:=hel j hjl
   have h2:xs[j]?.map (·.1)=some (pxD r):=by
    rw[←A21,←hx,A21,hr];rfl
   cases hxj:xs[j]? with
   | none=>rw[hxj] at h2;cases h2
   | some x=>
    rw[hxj] at h1 h2
    simp only[A80,A26] at h2
    have:x=(pxD r,x.2):=by rw[←h2]
    rw[this] at h1
    exact Z7 h1
  have hc:∀ j (r:Nat×Bs),PX[j]? = some r→c[j*2]? = some (.int .u8 (r.1:Nat))∧c[j*2+1]? = some (str r.2):=fun j r hr=>by
   have e:=hj j r hr
   have e0:=A76 (fun l:List Value=>l[0]?) e
   have e1:=A76 (fun l:List Value=>l[1]?) e
   simp only[A41,A53,Array.getElem?_toList] at e0 e1
   exact⟨e0,e1⟩
  have hi14:i=0∨i=1∨i=2∨i=3∨i=4∨i=5∨i=6∨i=7∨i=8∨i=9∨i=10∨i=11∨i=12∨i=13:=by omega
  rcases hi14 with rfl|rfl|rfl|rfl|rfl|rfl|rfl|rfl|rfl|rfl|rfl|rfl|rfl|rfl
  ·exact (hc 0 _ rfl).1
  ·exact (hc 0 _ rfl).2
  ·exact (hc 1 _ rfl).1
  ·exact (hc 1 _ rfl).2
  ·exact (hc 2 _ rfl).1
  ·exact (hc 2 _ rfl).2
  ·exact (hc 3 _ rfl).1
  ·exact (hc 3 _ rfl).2
  ·exact (hc 4 _ rfl).1
  ·exact (hc 4 _ rfl).2
  ·exact (hc 5 _ rfl).1
  ·exact (hc 5 _ rfl).2
  ·exact (hc 6 _ rfl).1
  ·exact (hc 6 _ rfl).2
 ·cases hvar
theorem Xr {f:FuncId}{args:List Value}{W:World}(h:Call TP f args W.heap fun v h'=>v=.bool true∧∃ y,AN (y+allR W.heap) h') :
  Calls TP f args.toArray W fun e W'=>e=.returned (.bool true)∧W'.os=W.os∧W'.output=W.output∧∀ (b:Nat) (o:Obj),W.heap[b]? = some o→W'.heap[b]? = some o:=by
 refine (h W rfl).mono fun e W' q=>?_
 cases e with
 | returned v=>
  obtain⟨⟨s1,s2⟩,rfl,y,w⟩:=q
  exact⟨rfl,s1,s2,fun b o hb=>Wu w hb⟩
 | _=>exact q.elim
theorem Zl {W W':World}{may:MemPlace→Prop}(h1:W'.os=W.os)(h2:W'.output=W.output)(h3:∀ (b:Nat) (o:Obj),W.heap[b]? = some o→W'.heap[b]? = some o):W.keptBut W' may:=by
 refine⟨h1,h2,fun i hi=>?_⟩
 have hg:W.heap[i]? = some W.heap[i]:=Array.getElem?_eq_getElem hi
 rw[h3 i _ hg,hg]
 cases W.heap[i]<;>simp
theorem Yd {W W':World}{ps:List MemPlace}(hlt:∀ p∈ps,p.block<W.heap.size)(h3:∀ (b:Nat) (o:Obj),W.heap[b]? = some o→W'.heap[b]? = some o):∀ p∈ps,W.sameAt W' p:=fun p hp=>by
 have hb:=hlt p hp
 cases p with
 | cell b off=>
  have hg:W.heap[b]? = some W.heap[b]:=Array.getElem?_eq_getElem hb
  show W'.cell? _=W.cell? _
  unfold World.cell?
  simp only[h3 b _ hg,hg]
 | map b=>
  have hg:W.heap[b]? = some W.heap[b]:=Array.getElem?_eq_getElem hb
  show W'.heap[b]? = W.heap[b]?
  rw[h3 b _ hg,hg]
end
theorem Dy {a r:Bs}{p q n:Nat}(h:p=a.length+q):leL (a++r) p n=leL r q n:=by
 subst h
 unfold leL
 rw[←A64,A83]
theorem GS {a r:Bs}{p n:Nat}(h:p+n≤a.length):leL (a++r) p n=leL a p n:=by
 unfold leL
 rw[A52 (by omega),A24 (by rw[A27];omega)]
theorem DQ {b:Bs}{k p n:Nat}:leL (b.drop k) p n=leL b (k+p) n:=by
 unfold leL
 rw[A64]
theorem EQ {b:Bs}{k p n:Nat}(h:p+n≤k):leL (b.take k) p n=leL b p n:=by
 unfold leL
 rw[A49,A95,A30 (by omega)]
theorem Lw:∀ n,IT (List.replicate n 0)=0
 | 0=>rfl
 | n+1=>by rw[List.replicate_succ,IT,Lw n];rfl
theorem FJ {m p n:Nat}:leL (List.replicate m 0) p n=0:=by
 unfold leL
 rw[List.drop_replicate,B49,Lw]
theorem Vs (a:Nat):IT (Aq a)=a%65536:=by
 simp only[Aq,IT,B09]
 omega
theorem WT (a:Nat):IT (Ac a)=a%4294967296:=by
 simp only[Ac,IT,B09]
 omega
theorem Eh {a p n:Nat}{r:Bs}:leL (Aq a++r) (p+2) n=leL r p n:=Dy (by rw[BI];omega)
theorem Bo {a p n:Nat}{r:Bs}:leL (Ac a++r) (p+4) n=leL r p n:=Dy (by rw[Av];omega)
theorem BX {a:Nat}{r:Bs}:leL (Aq a++r) 0 2=a%65536:=by
 rw[GS (by rw[BI];omega),←Vs];rfl
theorem An {a:Nat}{r:Bs}:leL (Ac a++r) 0 4=a%4294967296:=by
 rw[GS (by rw[Av];omega),←WT];rfl
theorem XG {a:Nat}{r:Bs}(h:a<256):leL ([UInt8.ofNat a]++r) 0 1=a:=by
 show (UInt8.ofNat a).toNat+256*0=a
 rw[B09]
 omega
theorem XP {c:UInt8}{p n:Nat}{r:Bs}:leL ([c]++r) (p+1) n=leL r p n:=rfl
theorem ACM {m p n:Nat}{r:Bs}:leL (List.replicate m 0++r) (p+m) n=leL r p n:=Dy (by rw[A09];omega)
theorem ZY {a p n:Nat}{r:Bs}:leL (E5 a++r) (p+8) n=leL r p n:=Dy (by show _=8+_;omega)
theorem AEE {f:Nat→Nat}:leL (HH f) 0 4=f 0%4294967296∧leL (HH f) 4 4=f 1%4294967296∧leL (HH f) 20 4=f 5%4294967296∧leL (HH f) 24 4=f 6%4294967296∧leL (HH f) 32 4=f 8%4294967296∧leL (HH f) 40 4=f 10%4294967296∧leL (HH f) 56 2=f 15%65536∧leL (HH f) 58 2=f 16%65536∧leL (HH f) 76 4=f 22%4294967296∧leL (HH f) 84 4=f 25%4294967296∧leL (HH f) 88 2=f 26%65536∧leL (HH f) 92 4=f 28%4294967296∧leL (HH f) 96 4=f 29%4294967296∧leL (HH f) 100 4=f 30%4294967296∧leL (HH f) 336 4=f 177%4294967296∧leL (HH f) 12 4=f 3%4294967296∧leL (HH f) 344 4=f 179%4294967296∧leL (HH f) 16 4=f 4%4294967296:=by
 have z16:∀ (a q n:Nat) (r:Bs),leL (Aq a++r) (q+2) n=leL r q n:=fun a q n r=>Eh
 have z32:∀ (a q n:Nat) (r:Bs),leL (Ac a++r) (q+4) n=leL r q n:=fun a q n r=>Bo
 have z64:∀ (a q n:Nat) (r:Bs),leL (E5 a++r) (q+8) n=leL r q n:=fun a q n r=>ZY
 have z8:∀ (c:UInt8) (q n:Nat) (r:Bs),leL ([c]++r) (q+1) n=leL r q n:=fun c q n r=>XP
 have zz:∀ (m q n:Nat) (r:Bs),leL (List.replicate m 0++r) (q+m) n=leL r q n:=fun m q n r=>ACM
 unfold HH
 simp only[A34,A12,Nat.reduceMul]
 refine⟨?_,?_,?_,?_,?_,?_,?_,?_,?_,?_,?_,?_,?_,?_,?_,?_,?_,?_⟩
 ·exact An
 ·rw[z32 _ 0,An]
 ·rw[z32 _ 16,z32 _ 12,z32 _ 8,z32 _ 4,z32 _ 0,An]
 ·rw[z32 _ 20,z32 _ 16,z32 _ 12,z32 _ 8,z32 _ 4,z32 _ 0,An]
 ·rw[z32 _ 28,z32 _ 24,z32 _ 20,z32 _ 16,z32 _ 12,z32 _ 8,z32 _ 4,z32 _ 0,An]
 ·rw[z32 _ 36,z32 _ 32,z32 _ 28,z32 _ 24,z32 _ 20,z32 _ 16,z32 _ 12,z32 _ 8,z32 _ 4,z32 _ 0,An]
 ·rw[z32 _ 52,z32 _ 48,z32 _ 44,z32 _ 40,z32 _ 36,z32 _ 32,z32 _ 28,z32 _ 24,z32 _ 20,z32 _ 16,z32 _ 12,z32 _ 8,z32 _ 4,z16 _ 2,z16 _ 0,BX]
 ·rw[z32 _ 54,z32 _ 50,z32 _ 46,z32 _ 42,z32 _ 38,z32 _ 34,z32 _ 30,z32 _ 26,z32 _ 22,z32 _ 18,z32 _ 14,z32 _ 10,z32 _ 6,z16 _ 4,z16 _ 2,z16 _ 0,BX]
 ·rw[z32 _ 72,z32 _ 68,z32 _ 64,z32 _ 60,z32 _ 56,z32 _ 52,z32 _ 48,z32 _ 44,z32 _ 40,z32 _ 36,z32 _ 32,z32 _ 28,z32 _ 24,z16 _ 22,z16 _ 20,z16 _ 18,z16 _ 16,z16 _ 14,z16 _ 12,z32 _ 8,z32 _ 4,z32 _ 0,An]
 ·rw[z32 _ 80,z32 _ 76,z32 _ 72,z32 _ 68,z32 _ 64,z32 _ 60,z32 _ 56,z32 _ 52,z32 _ 48,z32 _ 44,z32 _ 40,z32 _ 36,z32 _ 32,z16 _ 30,z16 _ 28,z16 _ 26,z16 _ 24,z16 _ 22,z16 _ 20,z32 _ 16,z32 _ 12,z32 _ 8,z32 _ 4,z16 _ 2,z16 _ 0,An]
 ·rw[z32 _ 84,z32 _ 80,z32 _ 76,z32 _ 72,z32 _ 68,z32 _ 64,z32 _ 60,z32 _ 56,z32 _ 52,z32 _ 48,z32 _ 44,z32 _ 40,z32 _ 36,z16 _ 34,z16 _ 32,z16 _ 30,z16 _ 28,z16 _ 26,z16 _ 24,z32 _ 20,z32 _ 16,z32 _ 12,z32 _ 8,z16 _ 6,z16 _ 4,z32 _ 0,BX]
 ·rw[z32 _ 88,z32 _ 84,z32 _ 80,z32 _ 76,z32 _ 72,z32 _ 68,z32 _ 64,z32 _ 60,z32 _ 56,z32 _ 52,z32 _ 48,z32 _ 44,z32 _ 40,z16 _ 38,z16 _ 36,z16 _ 34,z16 _ 32,z16 _ 30,z16 _ 28,z32 _ 24,z32 _ 20,z32 _ 16,z32 _ 12,z16 _ 10,z16 _ 8,z32 _ 4,z16 _ 2,z16 _ 0,An]
 ·rw[z32 _ 92,z32 _ 88,z32 _ 84,z32 _ 80,z32 _ 76,z32 _ 72,z32 _ 68,z32 _ 64,z32 _ 60,z32 _ 56,z32 _ 52,z32 _ 48,z32 _ 44,z16 _ 42,z16 _ 40,z16 _ 38,z16 _ 36,z16 _ 34,z16 _ 32,z32 _ 28,z32 _ 24,z32 _ 20,z32 _ 16,z16 _ 14,z16 _ 12,z32 _ 8,z16 _ 6,z16 _ 4,z32 _ 0,An]
 ·rw[z32 _ 96,z32 _ 92,z32 _ 88,z32 _ 84,z32 _ 80,z32 _ 76,z32 _ 72,z32 _ 68,z32 _ 64,z32 _ 60,z32 _ 56,z32 _ 52,z32 _ 48,z16 _ 46,z16 _ 44,z16 _ 42,z16 _ 40,z16 _ 38,z16 _ 36,z32 _ 32,z32 _ 28,z32 _ 24,z32 _ 20,z16 _ 18,z16 _ 16,z32 _ 12,z16 _ 10,z16 _ 8,z32 _ 4,z32 _ 0,An]
 ·rw[z32 _ 332,z32 _ 328,z32 _ 324,z32 _ 320,z32 _ 316,z32 _ 312,z32 _ 308,z32 _ 304,z32 _ 300,z32 _ 296,z32 _ 292,z32 _ 288,z32 _ 284,z16 _ 282,z16 _ 280,z16 _ 278,z16 _ 276,z16 _ 274,z16 _ 272,z32 _ 268,z32 _ 264,z32 _ 260,z32 _ 256,z16 _ 254,z16 _ 252,z32 _ 248,z16 _ 246,z16 _ 244,z32 _ 240,z32 _ 236,z32 _ 232,zz 16 216,zz 16 200,zz 64 136,z32 _ 132,z8 _ 131,z8 _ 130,z16 _ 128,zz 16 112,z32 _ 108,z32 _ 104,z32 _ 100,zz 16 84,z8 _ 83,z8 _ 82,z16 _ 80,z32 _ 76,z32 _ 72,z32 _ 68,zz 68 0,An]
 ·rw[z32 _ 8,z32 _ 4,z32 _ 0,An]
 ·rw[z32 _ 340,z32 _ 336,z32 _ 332,z32 _ 328,z32 _ 324,z32 _ 320,z32 _ 316,z32 _ 312,z32 _ 308,z32 _ 304,z32 _ 300,z32 _ 296,z32 _ 292,z16 _ 290,z16 _ 288,z16 _ 286,z16 _ 284,z16 _ 282,z16 _ 280,z32 _ 276,z32 _ 272,z32 _ 268,z32 _ 264,z16 _ 262,z16 _ 260,z32 _ 256,z16 _ 254,z16 _ 252,z32 _ 248,z32 _ 244,z32 _ 240,zz 16 224,zz 16 208,zz 64 144,z32 _ 140,z8 _ 139,z8 _ 138,z16 _ 136,zz 16 120,z32 _ 116,z32 _ 112,z32 _ 108,zz 16 92,z8 _ 91,z8 _ 90,z16 _ 88,z32 _ 84,z32 _ 80,z32 _ 76,zz 68 8,z32 _ 4,z32 _ 0,An]
 ·rw[z32 _ 12,z32 _ 8,z32 _ 4,z32 _ 0,An]
theorem AGu {ipg vd fi inc:Nat}(hi:ipg<4294967296)(hv:vd<4294967296)(hf:fi<4294967296)(hinc:inc=578∨inc=33346):SbOK (HH (JQ ipg vd fi inc)) vd ipg∧leL (HH (JQ ipg vd fi inc)) 12 4=0∧leL (HH (JQ ipg vd fi inc)) 344 4=0∧leL (HH (JQ ipg vd fi inc)) 16 4=fi:=by
 have hl:=Gm (JQ ipg vd fi inc)
 obtain⟨a1,a2,a3,a4,a5,a6,a7,a8,a9,a10,a11,a12,a13,a14,a15,a16,a17,a18⟩:=AEE (f:=JQ ipg vd fi inc)
 have hc:inc%4294967296=inc:=by rcases hinc with rfl|rfl<;>rfl
 refine⟨⟨hl,a1.trans (A23 hi),a2.trans (A23 hv),a3,a4,a5,a6.trans (A23 hi),a7,a8,a9,a10,a11,a12,?_,a14,a15⟩,a16,a17,a18.trans (A23 hf)⟩
 rw[a13]
 show inc%4294967296=578∨inc%4294967296=33346
 rw[hc];exact hinc
end Go.Proofs.YtollddkkdgoonaaGreatDoor
