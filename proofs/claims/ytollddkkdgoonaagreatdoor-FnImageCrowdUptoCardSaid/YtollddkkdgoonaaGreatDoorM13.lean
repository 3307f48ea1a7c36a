/- A part of a proof over images that are written and read. No condition; a step. -/
import Derived.Test.YtollddkkdgoonaaGreatDoorM12
namespace Go.Proofs.YtollddkkdgoonaaGreatDoor
open Go
set_option linter.unusedVariables false
set_option linter.unusedSimpArgs false
section
variable {h:H} {k:Value→Prop} {kt Q:Kt} {x y r:Res} {wb:Nat} {S S':PS} {ad:Nat→Nat}
attribute [local irreducible] AK Az
theorem NH {α:Type}{g:α→List Value}{n:Nat}(hg:∀ a,(g a).length=n):∀ (l:List α) (i:Nat) (a:α),l[i]? = some a→(⟨l.flatMap g⟩:Array Value).extract (i*n) (i*n+n)=⟨g a⟩
 | [],i,a,h=>by simp at h
 | b::l,0,a,h=>by
  simp only[A51,A26] at h
  subst h
  apply A56
  simp only[A37,B42,A44,A92,A29,B35,A68]
  rw[←hg b,A24 (A07 _),A38]
 | b::l,i+1,a,h=>by
  have ih:=NH hg l i a (by simpa using h)
  apply A56
  have ih':=A76 Array.toList ih
  simp only[A37,B42,A44,A62] at ih' ⊢
  have e:(i+1)*n=(g b).length+i*n:=by rw[hg b,A93,B34,B54]
  rw[e,List.drop_append,show (g b).length+i*n-(g b).length=i*n by omega,A59 (show (g b).length≤(g b).length+i*n by omega),A34]
  exact ih'
theorem KS {α β:Type}{g:α→List β}{n:Nat}(hg:∀ a,(g a).length=n):∀ l:List α,(l.flatMap g).length=l.length*n
 | []=>by simp
 | a::l=>by rw[A37,A01,KS hg l,hg,A19,A93,B34,B54]
theorem Ky (f:Nat→Nat):(E6 f).length=12:=rfl
theorem F5 (f:Nat→Nat):(Pr f).length=32:=rfl
theorem KG (f:Nat→Nat):(HD f).length=128:=by simp[HD]
def Bp (f:Nat→Nat)(i:Nat):Bs:=((HD f).take i).flatMap Pr
theorem Dh (f:Nat→Nat)(i:Nat)(hi:i≤128):(Bp f i).length=32*i:=by
 unfold Bp
 rw[KS F5,A20,KG]
 omega
theorem Tk {B m:Bs}{p:Nat}(h:p+m.length≤B.length):BG B p m=setL B p m:=by
 unfold BG
 rw[show p+m.length-B.length=0 by omega]
 simp
set_option maxRecDepth 20000 in
theorem AEv {s:WS}{gb:Nat}{f:Nat→Nat}{x8 x9 x14 x19 x20:Value}{B:Bs}(ok:s.OK)(w:AN (s.res+(gdR gb f+x)) h)(hB:s.B=B)(hdp:s.dpos=4096)(hl:8192≤B.length)
  (K:∀ (rec1:Value→H→Prop) dv r h,WS.OK {s with dv:=dv,dr:=r,B:=setL B 4096 (Bp f 128),dpos:=8192}→AN (WS.res {s with dv:=dv,dr:=r,B:=setL B 4096 (Bp f 128),dpos:=8192}+(gdR gb f+x)) h →
   Mb Q rec1 (Pt s.wb) x8 x9 x14 x19 x20 (.slice (some ⟨gb,0,none⟩) 128 128) (.int .i64 ((128:Nat):Int)) (.int .i64 ((128:Nat):Int)) h) :
  S5 Q (Pt s.wb) x8 x9 x14 x19 x20 (.slice (some ⟨gb,0,none⟩) 128 128) (.int .i64 ((128:Nat):Int)) (.int .i64 0) h:=by
 have hmax:=ok.max
 have hlen:=ok.len
 have hBl:(setL B 4096 ([]:Bs)).length=B.length:=by rw[KB]
 unfold S5
 refine Ba (fun m u h'=>∃ (i:Nat) (dv:Value) (r:Res),m=128-i∧i≤128∧u=.int .i64 (i:Nat)∧WS.OK {s with dv:=dv,dr:=r,B:=setL B 4096 (Bp f i),dpos:=4096+32*i} ∧
   AN (WS.res {s with dv:=dv,dr:=r,B:=setL B 4096 (Bp f i),dpos:=4096+32*i}+(gdR gb f+x)) h') 128 ⟨0,s.dv,s.dr,rfl,by omega,rfl,?_,?_⟩ ?_
 ·have e:Bp f 0=[]:=rfl
  rw[e,KB]
  exact⟨by rw[←hB];exact ok.buf,by rw[←hB];exact ok.len,ok.max⟩
 ·refine w.cast ?_
  unfold WS.res
  rw[hdp]
 ·rintro rec m u h' ⟨i,dv,r,rfl,hi,rfl,oki,w⟩ hrec
  by_cases hlt:i<128
  ·obtain⟨g,hg⟩:∃ g,(HD f)[i]? = some g:=⟨_,A00 (by rw[KG];exact hlt)⟩
   have hdl:=Dh f i (by omega)
   have hsl:(setL B 4096 (Bp f i)).length=B.length:=AS (by omega)
   unfold Mb
   have e1:decide ((i:Int)<((128:Nat):Int))=true:=A04 (by omega)
   rw[AT,e1,Ak,RK hlt,A29,Am (w.find (b:=gb)) (by rw[A31,KS Ky,KG];omega),NH Ky _ _ _ hg]
   refine Ah w NM rfl fun tb h w=>?_
   refine AL w ⟨E6 g⟩ ((A2 _ _ _).trans rfl) rfl (by exact A07 12) rfl fun h w=>?_
   simp only[go_sem,AF w]
   have hex:(⟨E6 g⟩:Array Value).extract 0 (0+12)=⟨E6 g⟩:=rfl
   rw[Am (w.find (b:=tb)) (by exact A07 12),hex]
   refine AAA _ _ _ (AH7 w fun v r2 h bv w=>⟨Ad w rfl,?_⟩)
   have k1:∀ A T W D R G X:Res,A+(T+(W+(D+R)+(G+X)))=D+(R+(W+(A+(T+(G+X))))):=by intros;ac_rfl
   refine Nt _ _ _ _ (ACY (news:=Pr g) (T:=121) oki.buf (w.cast (k1 _ _ _ _ _ _ _)) (bv.rdX.addL.addR) (by rw[F5];show 4096+32*i+32≤140737488355328;omega) (by show (setL B 4096 (Bp f i)).length≤140737488355328;rw[hsl,←hB];omega) (by rw[F5];omega) fun dv' r' h bv' w=>?_)
   simp (disch:=omega) only[go_sem]
   have hB2:BG (setL B 4096 (Bp f i)) (4096+32*i) (Pr g)=setL B 4096 (Bp f (i+1)):=by
    rw[Tk (by rw[hsl,F5];omega),Dd (by omega) (by rw[hdl,F5];omega)]
    congr 1
    unfold Bp
    rw[A85,hg]
    simp
   have bv2:BufV dv' (setL B 4096 (Bp f (i+1))) r':=by rw[←hB2];exact bv'
   have k2:∀ A T W D R G X:Res,D+(R+(W+(A+(T+(G+X)))))=(W+(D+R)+(G+X))+(A+T):=by intros;ac_rfl
   refine hrec (128-(i+1)) _ _ ⟨i+1,dv',r',rfl,by omega,rfl,⟨bv2,?_,hmax⟩,?_⟩ (by omega)
   ·show (setL B 4096 (Bp f (i+1))).length≤s.max
    rw[AS (by rw[Dh f (i+1) (by omega)];omega),←hB];exact hlen
   ·have hp:4096+32*i+(Pr g).length=4096+32*(i+1):=by rw[F5];omega
    have w2:=w.cast (k2 _ _ _ _ _ _ _)
    rw[show ({s with dv:=dv,dr:=r,B:=setL B 4096 (Bp f i),dpos:=4096+32*i}:WS).dpos=4096+32*i from rfl,hp] at w2
    exact w2.left
  ·have hi':i=128:=by omega
   subst hi'
   exact K rec dv r h' oki w
end
section
variable {h:H} {k:Value→Prop} {kt Q:Kt} {x y r:Res} {wb:Nat} {S S':PS} {ad:Nat→Nat}
attribute [local irreducible] AK Az
def JQ (ipg vd fi inc:Nat):Nat→Nat
 | 0=>ipg
 | 1=>vd
 | 4=>fi
 | 6=>2
 | 7=>2
 | 8=>32768
 | 9=>32768
 | 10=>ipg
 | 15=>61267
 | 16=>1
 | 17=>1
 | 22=>1
 | 25=>11
 | 26=>256
 | 28=>520
 | 29=>inc
 | 30=>4170
 | 180=>24
 | 181=>24
 | 187=>31
 | 357=>11
 | _=>0
set_option maxRecDepth 100000 in
theorem Sl:AG TP 242=some (.agg ⟨HE fun _=>0⟩):=by kernel_rfl
theorem Ar {c:Array Value}{l:List Value}(h:l.length=c.size):Ai c 0 l=⟨l⟩:=by
 apply B02
 intro i
 rw[DZ _ _ _ _ (by omega)]
 have e:(⟨l⟩:Array Value)[i]? = l[i]?:=by simp
 rw[e]
 by_cases hi:i<l.length
 ·rw[A03 (by omega),B35]
 ·rw[A05 (by omega),A40 (by omega),Array.getElem?_eq_none (by omega)]
theorem Vv {ipg vd fi inc:Nat}(h1:ipg<4294967296)(h2:vd<4294967296)(h3:fi<4294967296)(h4:inc<4294967296):RL (JQ ipg vd fi inc):=by
 have hz:∀ i,JQ ipg vd fi inc i<18446744073709551616:=fun i=>by unfold JQ;split<;>omega
 refine⟨fun i hi=>?_,hz⟩
 simp only[A32,B45,or_false] at hi
 rcases hi with rfl|rfl|rfl|rfl|rfl|rfl|rfl|rfl|rfl|rfl|rfl|rfl<;>(first|exact Nat.zero_lt_succ _|(show 31<256;decide))
theorem Yt (f:Nat→Nat):(HE f).length=465:=by
 have:=BP (f:=f)
 rwa [A31] at this
theorem Gm (f:Nat→Nat):(HH f).length=1024:=by
 unfold HH
 simp only[A01,BI,Av,A61,A09,A57,show ∀ n,(E5 n).length=8 from fun _=>rfl]
def FF:Bs:=List.replicate 4096 0
theorem G2:FF.length=4096:=A09 ..
def Bz (F:Nat→Nat):Bs:=setL FF 1024 (HH F)
theorem FT (F:Nat→Nat):(Bz F).length=4096:=by
 unfold Bz
 rw[AS (by rw[Gm,G2];decide),G2]
theorem AAQ (F:Nat→Nat):setL FF (0+1024*1) (HH F)=Bz F:=rfl
attribute [local irreducible] HE HH Bz FF
set_option maxRecDepth 100000 in
theorem ABU {s:WS}{F:Nat→Nat}{bb sb vd:Nat}(ok:s.OK)(w:AN (s.res+(pts bb (.cells (bcs FF) 205 (0,0))+(pts sb (.cells ⟨HE F⟩ 242 (0,0))+x))) h)(hF:RL F)(hl:4096≤s.B.length)(hvd:vd<4294967296)
  (K:∀ dv r d p h,WS.OK {s with dv:=dv,dr:=r,B:=setL s.B 0 (Bz F),dpos:=d,pos:=p}→AN (WS.res {s with dv:=dv,dr:=r,B:=setL s.B 0 (Bz F),dpos:=d,pos:=p}+x) h→Q .nilIface h) :
  OG Q (Pt s.wb) (.int .u32 (vd:Int)) (Pt bb) (Pt sb) h:=by
 have hmax:=ok.max
 have hlen:=ok.len
 have e4:(Value.int .i64 1024)=.int .i64 ((1024:Nat):Int):=rfl
 have hs:=BP (f:=F)
 have hex:(⟨HE F⟩:Array Value).extract 0 (0+465)=⟨HE F⟩:=by rw[←hs,A29,Array.extract_size]
 unfold OG
 rw[e4,Hs (by omega),Am (w.find (b:=sb)) (by rw[hs];exact A07 _),hex]
 refine AAo _ _ _ (AHQ hF w fun v r h bv w=>?_)
 have k1:∀ R S B C X:Res,R+(S+(B+(C+X)))=B+(R+(S+(C+X))):=by intros;ac_rfl
 refine FN (off:=0+1024*1) (all:=FF) (w.cast (k1 _ _ _ _ _)) bv.rdX.addL (by rw[Gm,G2];decide) (by rw[Gm];decide) fun h w=>?_
 have k2:∀ R S B C X:Res,B+(R+(S+(C+X)))=S+(B+(C+(R+X))):=by intros;ac_rfl
 refine Jt _ _ _ _ (AAG (n:=0) (s:=s) (w.cast (k2 _ _ _ _ _)) (by decide) fun h w=>?_)
 rw[Cu (show 0<4096 by decide)]
 have hbl:=FT F
 rw[AAQ] at w
 have w:AN (WS.res {s with dpos:=0,pos:=0}+(pts bb (.cells (bcs (Bz F)) 205 (0,0))+(pts sb (.cells ⟨HE F⟩ 242 (0,0))+(r+x)))) h:=w
 have d:RdX (pts bb (.cells (bcs (Bz F)) 205 (0,0))+(pts sb (.cells ⟨HE F⟩ 242 (0,0))+(r+x))) (.slice (some ⟨bb,0,none⟩) 4096 4096) (Bz F):=
  RdX.addL (.inr ⟨bb,0,4096,(Bz F).map bc,205,(0,0),0,by rw[hbl],(Res.add_zero _).symm,by rw[A25];omega,by rw[A68,←B11,A38],by omega⟩)
 have hput:BG s.B 0 (Bz F)=setL s.B 0 (Bz F):=Tk (by omega)
 refine Ms _ _ _ _ (s98 (s:={s with dpos:=0,pos:=0}) (news:=Bz F) ⟨ok.buf,ok.len,ok.max⟩ w d (by omega) (by rw[hbl];show 0+4096≤s.max;omega) rfl fun dv r2 h okw w=>?_)
 have okw:WS.OK {s with dv:=dv,dr:=r2,B:=BG s.B 0 (Bz F),dpos:=0+(Bz F).length,pos:=0+(Bz F).length}:=okw
 have w:AN (WS.res {s with dv:=dv,dr:=r2,B:=BG s.B 0 (Bz F),dpos:=0+(Bz F).length,pos:=0+(Bz F).length}+(pts bb (.cells (bcs (Bz F)) 205 (0,0))+(pts sb (.cells ⟨HE F⟩ 242 (0,0))+(r+x)))) h:=w
 rw[hput] at okw w
 simp only[go_sem]
 refine Jt _ _ _ _ (AAG (s:={s with dv:=dv,dr:=r2,B:=setL s.B 0 (Bz F),dpos:=0+(Bz F).length,pos:=0+(Bz F).length}) w hvd fun h w=>?_)
 simp only[go_sem,AF w]
 have k3:∀ R S B C X:Res,S+(B+(C+(R+X)))=S+X+(B+(C+R)):=by intros;ac_rfl
 exact K dv r2 (vd*4096) (vd*4096) h ⟨okw.buf,okw.len,okw.max⟩ (w.cast (k3 _ _ _ _ _)).left
end
section
variable {h:H} {k:Value→Prop} {kt Q:Kt} {x y r:Res} {wb:Nat} {S S':PS} {ad:Nat→Nat}
attribute [local irreducible] AK Az
theorem Oq {b:Nat}:pts b (.cells ⟨List.replicate 4096 (.int .u8 0)⟩ 205 (0,0))=pts b (.cells (bcs FF) 205 (0,0)):=by
 unfold FF
 rw[Dn]
 congr 2
def IY (inl:Bool):Nat:=if inl=true then 33346 else 578
theorem ACa (F:Nat→Nat):(HE F).all Value.oneCell'=true:=by kernel_rfl
theorem ADE {a b c:Nat}:Ai ⟨HE (JQ a b c 578)⟩ 29 [.int .u32 ((33346:Nat):Int)]=(⟨HE (JQ a b c 33346)⟩:Array Value):=by kernel_rfl
theorem AGo {a b c d:Nat}:(⟨HE (JQ a b c d)⟩:Array Value)[29]? = some (.int .u32 (d:Nat)):=Bt rfl
theorem AAp {a b c:Nat}:DC (Br (.struct [(0,1),(1,1),(2,1),(3,1),(4,1),(5,1),(6,1),(7,1),(8,1),(9,1),(10,1),(11,1),(12,1),(13,1),(14,1),(15,1),(16,1),(17,1),(18,1),(19,1),(20,1),(21,1),(22,1),(23,1),(24,1),(25,1),(26,1),(27,1),(28,1),(29,1),(30,1),(31,16),(47,16),(63,64),(127,1),(128,1),(129,1),(130,1),(131,16),(147,1),(148,1),(149,1),(150,4),(154,1),(155,1),(156,1),(157,1),(158,1),(159,1),(160,17),(177,1),(178,1),(179,1),(180,1),(181,1),(182,1),(183,1),(184,1),(185,1),(186,1),(187,1),(188,1),(189,1),(190,1),(191,1),(192,1),(193,1),(194,1),(195,1),(196,1),(197,1),(198,1),(199,32),(231,1),(232,1),(233,1),(234,1),(235,1),(236,32),(268,64),(332,1),(333,1),(334,1),(335,2),(337,4),(341,16),(357,1),(358,1),(359,1),(360,1),(361,1),(362,1),(363,1),(364,1),(365,1),(366,2),(368,96),(464,1)])) (HE fun _=>0)
  [(0,.int .u32 (a:Int)),(1,.int .u32 (b:Int)),(3,.int .u32 ((0:Nat):Int)),(4,.int .u32 (c:Int)),(5,.int .u32 0),(6,.int .u32 2),(7,.int .u32 2),(8,.int .u32 32768),(9,.int .u32 32768),(10,.int .u32 (a:Int)),(15,.int .u16 61267),(16,.int .u16 1),(17,.int .u16 1),(21,.int .u32 0),(22,.int .u32 1),(25,.int .u32 11),(86,.int .u32 11),(26,.int .u16 256),(28,.int .u32 520),(29,.int .u32 578),(30,.int .u32 4170),(53,.int .u16 24),(54,.int .u16 24),(60,.int .u8 31)]=some (HE (JQ a b c 578)):=by kernel_rfl
attribute [local irreducible] HE HH Bz FF
set_option maxRecDepth 20000 in
theorem AGf {s:WS}{rec1:Value→H→Prop}{gb ipg vd u:Nat}{gv:Value}{f:Nat→Nat}(ok:s.OK)(w:AN (s.res+(gdR gb f+x)) h)(hl:4096≤s.B.length)(hi:ipg≤32768)(hvd:vd<32768)(hu:u≤ipg)
  (K:∀ dv r d p h,WS.OK {s with dv:=dv,dr:=r,B:=setL s.B 0 (Bz (JQ ipg vd (ipg-u) (IY s.inl))),dpos:=d,pos:=p}→AN (WS.res {s with dv:=dv,dr:=r,B:=setL s.B 0 (Bz (JQ ipg vd (ipg-u) (IY s.inl))),dpos:=d,pos:=p}+x) h→Q .nilIface h) :
  Mb Q rec1 (Pt s.wb) (.int .u32 ((1:Nat):Int)) (.int .u32 (ipg:Int)) (.int .u32 (vd:Int)) (.int .u32 ((32768:Nat):Int)) (.int .u32 (u:Int)) gv (.int .i64 ((128:Nat):Int)) (.int .i64 ((128:Nat):Int)) h:=by
 unfold Mb
 have e1:decide (((128:Nat):Int)<((128:Nat):Int))=false:=rfl
 rw[AT,e1,AU]
 refine Ah w AAj rfl fun bb h w=>?_
 rw[Oq] at w
 have f1:(AD .mul (.int .u32 (ipg:Int)) (.int .u32 ((1:Nat):Int)))=fun k=>k (.int .u32 (ipg:Int)):=funext fun k=>by rw[Qc,A67,JR (by omega)]
 have f2:(AD .mul (.int .u32 32768) (.int .u32 ((1:Nat):Int)))=fun k=>k (.int .u32 ((32768:Nat):Int)):=funext fun k=>by rw[Bc];rfl
 have f3:(AD .sub (.int .u32 ((32768:Nat):Int)) (.int .u32 ((32768:Nat):Int)))=fun k=>k (.int .u32 ((0:Nat):Int)):=funext fun k=>by rw[Bv];rfl
 have f4:(AD .sub (.int .u32 (ipg:Int)) (.int .u32 (u:Int)))=fun k=>k (.int .u32 ((ipg-u:Nat):Int)):=funext fun k=>by rw[Vy hu,JR (by omega)]
 simp only[f1,f2,f3,f4]
 refine Au Sl rfl AAp ?_
 refine Ah w Sl rfl fun sb h w=>?_
 refine AL w ⟨HE (JQ ipg vd (ipg-u) 578)⟩ (Ar ((Yt _).trans BP.symm)) BP (by rw[BP];exact A07 _) (ACa _) fun h w=>?_
 have k1:∀ A B S G X:Res,A+(B+(S+(G+X)))=S+(B+(A+(G+X))):=by intros;ac_rfl
 have k2:∀ S G X:Res,S+(G+X)=S+X+G:=by intros;ac_rfl
 simp only[go_sem,AF w]
 cases hin:s.inl with
 | true=>
  rw[Ak]
  simp only[AGo,Fi]
  have f5:(AD .or (.int .u32 ((578:Nat):Int)) (.int .u32 32768))=fun k=>k (.int .u32 ((33346:Nat):Int)):=funext fun k=>by
   have:=AF5 (a:=578) (b:=32768) (k:=k) (by decide) (by decide)
   exact this
  simp only[f5]
  refine AL w ⟨HE (JQ ipg vd (ipg-u) 33346)⟩ ADE rfl (by rw[BP];decide) rfl fun h w=>?_
  refine ABU ok (w.cast (k1 _ _ _ _ _)) (Vv (by omega) (by omega) (by omega) (by decide)) hl (by omega) fun dv r d p h okw w=>?_
  have hinc:IY s.inl=33346:=by unfold IY;rw[hin];rfl
  rw[hinc] at K
  exact K dv r d p h okw (w.cast (k2 _ _ _)).left
 | false=>
  rw[AU]
  refine ABU ok (w.cast (k1 _ _ _ _ _)) (Vv (by omega) (by omega) (by omega) (by decide)) hl (by omega) fun dv r d p h okw w=>?_
  have hinc:IY s.inl=578:=by unfold IY;rw[hin];rfl
  rw[hinc] at K
  exact K dv r d p h okw (w.cast (k2 _ _ _)).left
end
section
variable {h:H} {k:Value→Prop} {kt Q:Kt} {x y r:Res} {wb:Nat} {S S':PS} {ad:Nat→Nat}
attribute [local irreducible] AK Az
theorem AAX (p:BM wb ad S x h){n:PN}(hn:S.M[1]? = some (some n))(K:Q (Pt (ad 2)) h):Yb (Pt wb) h Q:=by
 obtain⟨s,L,tr,a,w⟩:=p
 obtain⟨nd,hnd,_⟩:=CF (a.M▸hn)
 rw[←a.wb]
 refine AF0 a.ok w ?_
 unfold HJ
 rw[hnd]
 simp only[ptrO]
 rw[a.ok.num _ _ hnd]
 exact K
theorem T5 (p:BM wb ad S x h)(hp:S.pos≤S.max)(K:Q (.int .u32 (S.pos/4096:Nat)) h):ZD (Pt wb) h Q:=by
 obtain⟨s,L,tr,a,w⟩:=p
 rw[←a.wb]
 refine s100 (x:=tr+sumR ad L+x) a.ok.ws (by rw[a.pos,a.max];exact hp) (w.cast (by unfold FR;ac_rfl)) ?_
 rw[a.pos];exact K
theorem Pg {l:List Value}{k:Nat}(hl:l.length=k)(hk:0<k):∀ (n i:Nat),((List.replicate n l).flatten)[i]? = if i<n*k then l[i%k]? else none
 | 0,i=>by simp
 | n+1,i=>by
  rw[List.replicate_succ,List.flatten_cons]
  by_cases h:i<k
  ·rw[A18 (by omega),A03 (by rw[A93,B34];omega),A23 h]
  ·rw[A17 (by omega),hl,Pg hl hk n (i-k),A93,B34]
   have hm:(i-k)%k=i%k:=by
    conv=>rhs;rw[show i=i-k+k by omega]
    rw[Nat.add_mod_right]
   rw[hm]
   by_cases h2:i-k<n*k
   ·rw[A03 h2,A03 (by omega)]
   ·rw[A05 h2,A05 (by omega)]
theorem Ue {l:List Value}{k:Nat}(hl:l.length=k)(hk:0<k)(n:Nat):Ax ⟨l⟩ (n*k)=⟨(List.replicate n l).flatten⟩:=by
 apply B02
 intro i
 have e:(⟨(List.replicate n l).flatten⟩:Array Value)[i]? = ((List.replicate n l).flatten)[i]?:=by simp
 rw[e,Pg hl hk]
 unfold Ax
 rw[Array.getElem?_map,Array.getElem?_range]
 by_cases h:i<n*k
 ·rw[A03 h,A03 h]
  have hm:i%k<l.length:=by rw[hl];exact Nat.mod_lt _ hk
  have hg:l[i%k]? = some l[i%k]:=A00 hm
  subst hl
  rw[hg]
  simp[hm]
 ·rw[A05 h,A05 h];rfl
theorem Xv:Ax (Value.agg ⟨E6 fun _=>0⟩).cells (128*12)=⟨(HD fun _=>0).flatMap E6⟩:=by
 have h1:(Value.agg ⟨E6 fun _=>0⟩).cells=⟨E6 fun _=>0⟩:=rfl
 rw[h1,Ue (Ky _) (by decide)]
 have h2:HD (fun _=>0)=List.replicate 128 (fun _=>0):=rfl
 rw[h2,List.flatMap_def,B03]
theorem AD2 (w:AN x h)(K:∀ b h,AN (gdR b (fun _=>0)+x) h→kt (.slice (some ⟨b,0,none⟩) 128 128) h):AY (AG TP 226) 12 32 226 (.int .u32 ((128:Nat):Int)) (.int .u32 ((128:Nat):Int)) h kt:=
 ⟨.u32,.u32,128,128,_,rfl,rfl,NM,by omega,by omega,by omega,by omega,fun b h' e hb ho=>by
  refine K b h' (w.new e hb (ho.trans ?_))
  exact A76 (fun c=>some (Obj.cells c 226 (0,0))) Xv⟩
def BS (S:PS):Bs:=
 let ipg:=ipgOf S.M.length
 let ito:=S.pos/4096
 let M:=S.M.map (Option.map FY)
 let B1:=S.B++(Dl S.M++List.replicate (ipg*256-256*S.M.length) 0)++Db (FD M ipg) 8192
 let vd:=ito+ipg/16+2
 setL (setL B1 4096 (Bp (Pp (ito+ipg/16) ito (ipg-Dc (A8 M) ipg) (Dc (CS M) ipg)) 128)) 0 (Bz (JQ ipg vd (ipg-Dc (A8 M) ipg) (IY S.inl)))
structure ClOK (S:PS):Prop where
 tab:TabOK S.M
 B:S.B.length=S.pos
 al:S.pos%4096=0
 big:8192≤S.pos
 n1:1≤S.M.length
 n2:S.M.length≤10000
 vd:S.pos/4096+ipgOf S.M.length/16+2<32768
 max:S.pos+ipgOf S.M.length*256+8192≤S.max
 gd:S.gd=1
theorem VD (p:BM wb ad S x h):∃ a c s,s=S.M.length∧∀ k:Value→Prop,k (.slice a s c)→AE (Pt wb) fun x65=>AC 1 x65 fun x66=>AB false 1 x66 h k:=by
 obtain⟨s,L,tr,a,w⟩:=p
 obtain⟨⟨va,vc,hv⟩,_⟩:=a.ok.vec.len
 refine⟨va,vc,L.length,by rw[←a.M];simp[pnL],fun k hk=>?_⟩
 rw[←a.wb]
 simp only[go_sem,AF w]
 rw[hv]
 exact hk
attribute [local irreducible] Bp Db setL Bz JQ Pp FD Dl Dc A8 CS HD E6
set_option maxRecDepth 20000 in
theorem AEb {ipg ito:Nat}(c:ClOK S)(hipg:ipgOf S.M.length=ipg)(hito:S.pos/4096=ito)(p:BM wb ad (S.tabbed (ipg*256)) x h)
  (K:∀ h,(∃ s y,WS.OK s∧s.db=S.db∧s.B=BS S∧AN (s.res+(y+x)) h)→Q .nilIface h) :
  Po Q (Pt wb) (.int .u32 (ito:Int)) (.int .u32 ((1:Nat):Int)) (.int .u32 (ipg:Int)) (.int .u32 (ito+ipg/16:Nat)) (.int .u32 ((2:Nat):Int)) (.int .u32 (ito+ipg/16+2:Nat)) (.int .u32 (ito+ipg/16+2:Nat)) h:=by
 have h1:=c.n1
 have h2:=c.n2
 have h3:=c.vd
 have h4:=c.max
 have h5:=c.B
 have h6:=c.big
 have hi:S.M.length≤ipgOf S.M.length∧ipgOf S.M.length<S.M.length+16∧ipgOf S.M.length%16=0:=by unfold ipgOf;omega
 have htl:=FM c.tab
 rw[hipg] at hi h3 h4
 rw[hito] at h3
 have hBl:(S.tabbed (ipg*256)).B.length=(S.tabbed (ipg*256)).pos:=by
  show (S.B++(Dl S.M++List.replicate (ipg*256-256*S.M.length) 0)).length=S.pos+ipg*256
  rw[A01,A01,htl,A09]
  omega
 have hM:(S.tabbed (ipg*256)).M=S.M.map (Option.map FY):=rfl
 unfold Po
 have f1:(AD .sub (.int .u32 ((1:Nat):Int)) (.int .u32 1))=fun k=>k (.int .u32 ((0:Nat):Int)):=funext fun k=>by rw[Bv];rfl
 have f2:(AD .quo (.int .u32 ((0:Nat):Int)) (.int .u32 128))=fun k=>k (.int .u32 ((0:Nat):Int)):=funext fun k=>by rw[M5 (by decide)];rfl
 have f3:(AD .add (.int .u32 ((0:Nat):Int)) (.int .u32 1))=fun k=>k (.int .u32 ((1:Nat):Int)):=funext fun k=>by rw[A0];rfl
 have f4:(AD .mul (.int .u32 ((1:Nat):Int)) (.int .u32 128))=fun k=>k (.int .u32 ((128:Nat):Int)):=funext fun k=>by rw[Bc];rfl
 have e1:decide (((1:Nat):Int)>((1:Nat):Int))=false:=rfl
 obtain⟨s,L,tr,a,w⟩:=id p
 have hsg:s.gd=1:=by rw[a.gd];exact c.gd
 have hw:s.wb=wb:=a.wb
 rw[←hw]
 have hi4:ipg*256<4294967296:=by omega
 have f5:(AD .mul (.int .u32 (ipg:Int)) (.int .u32 256))=fun k=>k (.int .u32 ((ipg*256:Nat):Int)):=funext fun k=>by rw[XV,JR hi4]
 have f6:(AD .quo (.int .u32 ((ipg*256:Nat):Int)) (.int .u32 4096))=fun k=>k (.int .u32 ((ipg*256/4096:Nat):Int)):=funext fun k=>by rw[Rb (by decide),JR (B06 (B67 _ _) hi4)]
 simp only[f1,f2,f3,f5,f6]
 simp only[go_sem,AF w,hsg,e1,f4]
 rw[hw]
 obtain⟨r0,w0,cl⟩:=p.opened
 refine AD2 w0 fun gb h w=>?_
 have p:BM wb ad (S.tabbed (ipg*256)) (gdR gb (fun _=>0)+x) h:=cl _ _ (w.cast (Res.left_comm _ _ _))
 refine AGD (S:=S.tabbed (ipg*256)) (ipg:=ipg) (vd:=ito+ipg/16+2) (bo:=ito+ipg/16) (ito:=ito) p hBl (by omega) (by show S.pos+ipg*256+8192≤S.max;omega) rfl (by omega) (by omega) c.gd fun h p=>?_
 obtain⟨s,L,tr,a,w⟩:=p
 have hcnt:=HS (A8 (S.tabbed (ipg*256)).M) ipg
 have hB2:s.B=(S.tabbed (ipg*256)).B++Db (FD (S.tabbed (ipg*256)).M ipg) 8192:=a.B
 have hB3:8192≤s.B.length:=by
  rw[hB2,A01,hBl]
  show 8192≤S.pos+ipg*256+_
  omega
 have hw:s.wb=wb:=a.wb
 rw[←hw]
 refine AEv (s:=s) (x:=tr+sumR ad L+x) a.ok.ws (w.cast (by unfold FR;ac_rfl)) hB2 a.dpos (by rw[←hB2];exact hB3) fun rec1 dv r h okw w=>?_
 have hdl:=Dh (Pp (ito+ipg/16) ito (ipg-Dc (A8 (S.tabbed (ipg*256)).M) ipg) (Dc (CS (S.tabbed (ipg*256)).M) ipg)) 128 (by omega)
 refine AGf (s:={s with dv:=dv,dr:=r,B:=setL ((S.tabbed (ipg*256)).B++Db (FD (S.tabbed (ipg*256)).M ipg) 8192) 4096 (Bp (Pp (ito+ipg/16) ito (ipg-Dc (A8 (S.tabbed (ipg*256)).M) ipg) (Dc (CS (S.tabbed (ipg*256)).M) ipg)) 128),dpos:=8192}) okw w ?_ (by omega) (by omega) hcnt fun dv r d p h okw w=>K h ⟨_,tr+sumR ad L,okw,?_,?_,w⟩
 ·show 4096≤(setL _ 4096 _).length
  rw[AS (by rw[←hB2,hdl];omega),←hB2];omega
 ·show s.db=S.db
  exact a.db
 ·have hinl:s.inl=S.inl:=a.inl
  show setL (setL _ 4096 _) 0 (Bz (JQ ipg (ito+ipg/16+2) _ (IY s.inl)))=BS S
  unfold BS
  rw[hinl,hipg,hito]
  rfl
end
section
variable {h:H} {k:Value→Prop} {kt Q:Kt} {x y r:Res} {wb:Nat} {S S':PS} {ad:Nat→Nat}
attribute [local irreducible] AK Az Bp Db setL Bz JQ Pp FD Dl Dc A8 CS HD E6 BS
def ADY (S:PS)(x:Res)(h:H):Prop:=∃ s y,WS.OK s∧s.db=S.db∧s.B=BS S∧AN (s.res+(y+x)) h
set_option maxRecDepth 20000 in
theorem s63 {S1 S2:PS}{f:Nat}{n2:PN}(hfin:∀ Q:Kt,(∀ ad h,BM wb ad S1 x h→Q .nilIface h)→UX (Pt wb) h Q)(hroot:S1.M[1]? = some (some n2))(hr:RecD f S1 2 2 S2)(fin2:Fin S2 S)(c:ClOK S)(K:∀ h,ADY S x h→Q .nilIface h):f63 (Pt wb) h Q:=by
 have h1:=c.n1
 have h2:=c.n2
 have h3:=c.vd
 have h4:=c.max
 have h5:=c.B
 have hal:=c.al
 obtain⟨ipg,hipg⟩:∃ ipg,ipgOf S.M.length=ipg:=⟨_,rfl⟩
 obtain⟨ito,hito⟩:∃ ito,S.pos/4096=ito:=⟨_,rfl⟩
 have hi:S.M.length≤ipgOf S.M.length∧ipgOf S.M.length<S.M.length+16∧ipgOf S.M.length%16=0:=by unfold ipgOf;omega
 rw[hipg] at hi h3 h4
 rw[hito] at h3
 have hi4:ipg*256<4294967296:=by omega
 have hn4:S.M.length<4294967296:=by omega
 unfold f63
 refine ND _ _ _ (hfin _ fun ad h p=>?_)
 rw[LE,AU]
 refine Sg _ _ _ (AAX p hroot ?_)
 refine SZ _ _ _ _ _ (AFV f S1 2 2 S2 _ _ _ hr p fun h p=>?_)
 rw[LE,AU]
 refine ND _ _ _ (Jq p fin2 fun h p=>?_)
 rw[LE,AU]
 refine Ny _ _ _ (T5 p (by omega) ?_)
 rw[hito]
 obtain⟨va,vc,vs,hvs,hget⟩:=VD p
 refine hget _ ?_
 have f1:(AV .u32 (.int .i64 (vs:Int)))=fun k=>k (.int .u32 (S.M.length:Nat)):=funext fun k=>by rw[DO,hvs,JR hn4]
 rw[Aw,f1]
 refine Ya _ _ _ _ (AH0 h1 (by omega) (by rw[hipg];omega) ?_)
 rw[hipg,DA,DH]
 have f2:(AD .mul (.int .u32 1) (.int .u32 (ipg:Int)))=fun k=>k (.int .u32 (ipg:Int)):=funext fun k=>by rw[Bc,Int.one_mul,JR (by omega)]
 have f3:(AD .mul (.int .u32 (ipg:Int)) (.int .u32 256))=fun k=>k (.int .u32 ((ipg*256:Nat):Int)):=funext fun k=>by rw[XV,JR hi4]
 rw[f2]
 dsimp only
 rw[f3]
 refine AAI _ _ _ _ (AIB (T:=ipg*256) p c.tab c.B (by omega) hi4 (by omega) fun h p=>?_)
 rw[LE,AU]
 have hpos:(S.tabbed (ipg*256)).pos/4096=ito+ipg/16:=by
  show (S.pos+ipg*256)/4096=ito+ipg/16
  omega
 refine Ny _ _ _ (T5 p (by show S.pos+ipg*256≤S.max;omega) ?_)
 rw[hpos]
 have f4:(AD .mul (.int .u32 1) (.int .u32 2))=fun k=>k (.int .u32 ((2:Nat):Int)):=funext fun k=>by rw[Bc];rfl
 have hlt2:ito+ipg/16+2<4294967296:=by omega
 have f5:(AD .add (.int .u32 (ito+ipg/16:Nat)) (.int .u32 ((2:Nat):Int)))=fun k=>k (.int .u32 ((ito+ipg/16+2:Nat):Int)):=funext fun k=>by rw[F2,JR hlt2]
 have f6:(AD .sub (.int .u32 1) (.int .u32 1))=fun k=>k (.int .u32 ((0:Nat):Int)):=funext fun k=>by rw[Bv];rfl
 have f7:(AD .mul (.int .u32 ((0:Nat):Int)) (.int .u32 32768))=fun k=>k (.int .u32 ((0:Nat):Int)):=funext fun k=>by rw[Bc];rfl
 have f8:(AD .add (.int .u32 ((0:Nat):Int)) (.int .u32 1))=fun k=>k (.int .u32 ((1:Nat):Int)):=funext fun k=>by rw[A0];rfl
 have e1:decide (((ito+ipg/16+2:Nat):Int)<((1:Nat):Int))=false:=A08 (by omega)
 simp only[f4,f5,f6,f7,f8,AT]
 rw[e1,AU]
 exact AEb c hipg hito p K
end
section
set_option maxRecDepth 100000
def IE (Q:Kt)(r1:R2)(x9 a1 a2 a5 a6 c3 c4 c5:Value)(h:H):Prop:=
 Call TP 62 [a6] h fun o8 h=>AC 0 a5 fun o9=>AJ 1 o9 o8 h fun h=>AB true 22 a5 h fun p1=>AH (.arr 22) 36 (AG TP 36) 22 1 [(0,p1)] h fun p2 h=>AM 36 (AG TP 36) 22 184 a2 p2 h fun p3 h=>AD .add c5 (.int .i64 1) fun p4=>r1 p3 p4 h
def OP (Q:Kt)(r1:R2)(x9 a1 a2 a4 a5 c3 c4 c5 i4:Value)(h:H):Prop:=
 AK i4
 (AC 0 a5 fun i5=>AJ 1 i5 (.int .i64 13) h fun h=>AB true 22 a5 h fun i7=>AH (.arr 22) 36 (AG TP 36) 22 1 [(0,i7)] h fun i8 h=>AM 36 (AG TP 36) 22 184 a2 i8 h fun i9 h=>AD .add c5 (.int .i64 1) fun p4=>r1 i9 p4 h)
 (AC 1 a4 fun j1=>AB false 1 j1 h fun j2=>AC 3 a4 fun j3=>AB true 20 j3 h fun j4=>Call TP 56 [j4] h fun j5 h=>((AB false 1 j1 h fun v=>v=j2)∧Call TP 55 [a1,j2,j5] h fun j6 h=>IE Q r1 x9 a1 a2 a5 j6 c3 c4 c5 h))
def Ly (Q:Kt)(r1:R2)(x9 a1 c3 c4 a2 c5:Value)(h:H):Prop:=
 AD .lss c5 c4 fun c6=>AK c6
 (AI (.slice 24) c3 c5 fun c7=>AB true 24 c7 h fun c8=>AQ (AG TP 32) 32 h fun a4 h=>AJ 24 a4 c8 h fun h=>Ae (.struct [(0,1),(1,1),(2,20)]) (AG TP 36) [] fun c9=>AQ (AG TP 36) 36 h fun a5 h=>AJ 22 a5 c9 h fun h=>AC 0 a4 fun d0=>AB false 1 d0 h fun d1=>AD .eql d1 (.int .i64 0) fun d8=>AK d8
 (AC 3 a4 fun d9=>AC 2 d9 fun g0=>AB false 1 g0 h fun g1=>AD .and g1 (.int .u16 61440) fun g2=>AC 3 a4 fun g3=>AC 1 g3 fun g4=>AB false 1 g4 h fun g5=>AD .lss g5 (.int .i64 0) fun g6=>Az g6 true (AD .eql g2 (.int .u16 0) fun g9=>Az g9 false (AD .eql g2 (.int .u16 32768) fun i2=>OP Q r1 x9 a1 a2 a4 a5 c3 c4 c5 i2 h) (OP Q r1 x9 a1 a2 a4 a5 c3 c4 c5 (.bool true) h)) (OP Q r1 x9 a1 a2 a4 a5 c3 c4 c5 (.bool false) h))
 (AD .eql d1 (.int .i64 1) fun j8=>AK j8
 (AC 23 a4 fun k1=>AB false 1 k1 h fun k2=>AM 5 (AG TP 5) 1 1 (.slice none 0 0) k2 h fun k3 h=>Call TP 57 [a1,k3] h fun k4 h=>AO k4 0 fun k5=>AO k4 1 fun k6=>AC 1 a5 fun k7=>AJ 1 k7 k5 h fun h=>IE Q r1 x9 a1 a2 a5 k6 c3 c4 c5 h)
 (AD .eql d1 (.int .i64 2) fun k9=>AK k9
 (AC 2 a4 fun m1=>AB false 1 m1 h fun m2=>AC 1 a4 fun m3=>AB false 1 m3 h fun m4=>Call TP 58 [a1,m2,m4] h fun m5 h=>IE Q r1 x9 a1 a2 a5 m5 c3 c4 c5 h)
 (AD .eql d1 (.int .i64 3) fun m7=>AK m7
 (AC 1 a4 fun n0=>AB false 1 n0 h fun n1=>Call TP 59 [a1,n1] h fun n2 h=>AO n2 0 fun n3=>AO n2 1 fun n4=>Bq .iface true false h n4 .nilIface fun n6=>AK n6
 (Call TP 60 [n3] h fun n8 h=>AC 2 a5 fun n9=>AJ 20 n9 n8 h fun h=>IE Q r1 x9 a1 a2 a5 n4 c3 c4 c5 h)
 (IE Q r1 x9 a1 a2 a5 n4 c3 c4 c5 h))
 (AD .eql d1 (.int .i64 4) fun o2=>AK o2
 (AC 1 a4 fun o4=>AB false 1 o4 h fun o5=>Call TP 61 [a1,o5] h fun o6 h=>IE Q r1 x9 a1 a2 a5 o6 c3 c4 c5 h)
 (AC 0 a5 fun d2=>AJ 1 d2 (.int .i64 13) h fun h=>AB true 22 a5 h fun d4=>AH (.arr 22) 36 (AG TP 36) 22 1 [(0,d4)] h fun d5 h=>AM 36 (AG TP 36) 22 184 a2 d5 h fun d6 h=>AD .add c5 (.int .i64 1) fun p4=>r1 d6 p4 h))))))
 (Call TP 63 [a1] h fun p6 h=>Bq .iface true true h p6 .nilIface fun p8=>AK p8
 (Call TP 62 [p6] h fun q1 h=>Q (.tuple #[a2,q1,(.slice none 0 0)]) h)
 (AE x9 fun q4=>AC 0 q4 fun q5=>AB false 1 q5 h fun q6=>Q (.tuple #[a2,(.int .i64 0),q6]) h))
def WU (Q:Kt)(x9 a1 c3 c4 a2 c5:Value)(h:H):Prop:=Bx (fun r1 a2 c5 h=>Ly Q r1 x9 a1 c3 c4 a2 c5 h) a2 c5 h
def Oy (Q:Kt)(x2 x9 a0:Value)(h:H):Prop:=
 Call TP 54 [x9,a0] h fun c2 h=>Ab x2 fun c4=>WU Q x9 c2 x2 c4 (.slice none 0 0) (.int .i64 0) h
def f23 (x0 x1 x2:Value)(h:H)(Q:Kt):Prop:=
 Ae (.struct [(0,1),(1,1)]) (AG TP 121) [] fun b1=>BB 121 (b1:Value).cells h fun b2 h=>Call TP 52 [x1] h fun b4 h=>AH (.arr 1) 123 (AG TP 123) 1 1 [(0,b4)] h fun b5 h=>AK x0
 (AH (.arr 1) 123 (AG TP 123) 1 1 [(0,(.func (.func 53) #[] #[]))] h fun b8 h=>AM 123 (AG TP 123) 1 8 b5 b8 h fun b9 h=>Oy Q x2 b2 b9 h)
 (Oy Q x2 b2 b5 h)
def AHP (Q:Kt)(r:RS):Nat→DJ:=tab [(1042846,.jn fun e h=>IE Q (u2 (r 1018)) (e 9) (e 11) (e 12) (e 15) (e 16) (e 33) (e 34) (e 35) h),
 (133484198,.jn fun e h=>OP Q (u2 (r 1018)) (e 9) (e 11) (e 12) (e 14) (e 15) (e 33) (e 34) (e 35) (e 64) h),
 (2037,.lp [9,11,33,34] [12,35] fun s e l h=>Ly Q (u2 s) (e 9) (e 11) (e 33) (e 34) (gl l 0) (gl l 1) h),
 (62,.jn fun e h=>Oy Q (e 2) (e 9) (e 10) h)]
theorem AB2 (x0 x1 x2:Value)(h:H)(Q:Kt)(x:f23 x0 x1 x2 h Q):Call TP 23 [x0,x1,x2] h Q:=Bb (AHP Q) Tryz.func23 (by kernel_rfl) x
def Wx (Q:Kt)(r1:R1)(x3 d3 d4 d5:Value)(h:H):Prop:=
 AD .lss d5 d4 fun d6=>AK d6
 (AI (.slice 2) d3 d5 fun d7=>AB true 2 d7 h fun d8=>AQ (AG TP 56) 56 h fun x5 h=>AJ 2 x5 d8 h fun h=>AE x3 fun g0=>AC 19 g0 fun g1=>AB false 1 g1 h fun g2=>AC 0 x5 fun g3=>AB false 1 g3 h fun g4=>AC 1 x5 fun g5=>AB false 1 g5 h fun g6=>AM 5 (AG TP 5) 1 1 (.slice none 0 0) g6 h fun g7 h=>((AB false 1 g1 h fun v=>v=g2)∧(AB false 1 g3 h fun v=>v=g4)∧Gp (some .string) g2 g4 g7 h fun h=>AD .add d5 (.int .i64 1) fun g8=>r1 g8 h))
 (Q x3 h)
def ABW (Q:Kt)(x3 d3 d4 d5:Value)(h:H):Prop:=A1 (fun r1 d5 h=>Wx Q r1 x3 d3 d4 d5 h) d5 h
def TT (Q:Kt)(x1 x3:Value)(h:H):Prop:=
 AC 19 x1 fun d2=>AB false 1 d2 h fun d3=>Ab d3 fun d4=>ABW Q x3 d3 d4 (.int .i64 0) h
def f56 (x0:Value)(h:H)(Q:Kt):Prop:=
 BB 28 (x0:Value).cells h fun x1 h=>AC 0 x1 fun x6=>AB false 1 x6 h fun x7=>AC 1 x1 fun x8=>AB false 1 x8 h fun x9=>AC 2 x1 fun a0=>AB false 1 a0 h fun a1=>AC 3 x1 fun a2=>AB false 1 a2 h fun a3=>AC 4 x1 fun a4=>AB false 1 a4 h fun a5=>AC 5 x1 fun a6=>AB true 3 a6 h fun a7=>AC 8 x1 fun a9=>AB true 3 a9 h fun b0=>AC 11 x1 fun b2=>AB true 3 b2 h fun b3=>AC 14 x1 fun b5=>AB true 3 b5 h fun b6=>AC 17 x1 fun b8=>AB false 1 b8 h fun b9=>AC 18 x1 fun c0=>AB false 1 c0 h fun c1=>Call TP 97 [a7] h fun a8 h=>((AB false 1 x6 h fun v=>v=x7)∧(AB false 1 x8 h fun v=>v=x9)∧(AB false 1 a0 h fun v=>v=a1)∧(AB false 1 a2 h fun v=>v=a3)∧(AB false 1 a4 h fun v=>v=a5)∧(AB true 3 a9 h fun v=>v=b0)∧(AB true 3 b2 h fun v=>v=b3)∧(AB true 3 b5 h fun v=>v=b6)∧(AB false 1 b8 h fun v=>v=b9)∧(AB false 1 c0 h fun v=>v=c1)∧Call TP 97 [b0] h fun b1 h=>((AB false 1 x6 h fun v=>v=x7)∧(AB false 1 x8 h fun v=>v=x9)∧(AB false 1 a0 h fun v=>v=a1)∧(AB false 1 a2 h fun v=>v=a3)∧(AB false 1 a4 h fun v=>v=a5)∧(AB true 3 b2 h fun v=>v=b3)∧(AB true 3 b5 h fun v=>v=b6)∧(AB false 1 b8 h fun v=>v=b9)∧(AB false 1 c0 h fun v=>v=c1)∧Call TP 97 [b3] h fun b4 h=>((AB false 1 x6 h fun v=>v=x7)∧(AB false 1 x8 h fun v=>v=x9)∧(AB false 1 a0 h fun v=>v=a1)∧(AB false 1 a2 h fun v=>v=a3)∧(AB false 1 a4 h fun v=>v=a5)∧(AB true 3 b5 h fun v=>v=b6)∧(AB false 1 b8 h fun v=>v=b9)∧(AB false 1 c0 h fun v=>v=c1)∧Call TP 97 [b6] h fun b7 h=>((AB false 1 x6 h fun v=>v=x7)∧(AB false 1 x8 h fun v=>v=x9)∧(AB false 1 a0 h fun v=>v=a1)∧(AB false 1 a2 h fun v=>v=a3)∧(AB false 1 a4 h fun v=>v=a5)∧(AB false 1 b8 h fun v=>v=b9)∧(AB false 1 c0 h fun v=>v=c1)∧Ae (.struct [(0,1),(1,1),(2,1),(3,1),(4,1),(5,3),(8,3),(11,3),(14,3),(17,1),(18,1),(19,1)]) (AG TP 191) [(0,x7),(1,x9),(2,a1),(3,a3),(4,a5),(5,a8),(6,b1),(7,b4),(8,b7),(9,b9),(10,c1)] fun c2=>BB 191 (c2:Value).cells h fun c3 h=>AC 19 x1 fun c4=>AB false 1 c4 h fun c5=>Ab c5 fun c6=>AD .gtr c6 (.int .i64 0) fun c7=>AK c7
 (Gl h fun c9 h=>AE c3 fun d0=>AC 19 d0 fun d1=>AJ 1 d1 c9 h fun h=>TT Q x1 c3 h)
 (TT Q x1 c3 h)))))
def AHB (Q:Kt)(r:RS):Nat→DJ:=tab [(245,.lp [3,43,44] [45] fun s e l h=>Wx Q (u1 s) (e 3) (e 43) (e 44) (gl l 0) h),
 (30,.jn fun e h=>TT Q (e 1) (e 3) h)]
theorem ACe (x0:Value)(h:H)(Q:Kt)(x:f56 x0 h Q):Call TP 56 [x0] h Q:=Bb (AHB Q) Tryz.func56 (by kernel_rfl) x
def f97 (x0:Value)(h:H)(Q:Kt):Prop:=
 BB 25 (x0:Value).cells h fun x1 h=>AQ (AG TP 188) 188 h fun x2 h=>AC 0 x1 fun x3=>AB false 1 x3 h fun x4=>AC 1 x1 fun x5=>AB false 1 x5 h fun x6=>AC 2 x1 fun x7=>AB false 1 x7 h fun x8=>Ae (.struct [(0,1),(1,1),(2,1)]) (AG TP 188) [(0,x4),(1,x6),(2,x8)] fun x9=>AJ 3 x2 x9 h fun h=>AB true 3 x2 h fun v=>Q v h
theorem NT (x0:Value)(h:H)(Q:Kt)(x:f97 x0 h Q):Call TP 97 [x0] h Q:=Bb nT Tryz.func97 (by kernel_rfl) x
def Wq (Q:Kt)(r1:R2)(x6 x7 x3 x8:Value)(h:H):Prop:=
 AD .lss x8 x7 fun x9=>AK x9
 (AI (.slice 24) x6 x8 fun a0=>AB true 24 a0 h fun a1=>AQ (AG TP 32) 32 h fun x5 h=>AJ 24 x5 a1 h fun h=>AC 23 x5 fun a2=>AB false 1 a2 h fun a3=>AC 3 x5 fun a5=>AC 19 a5 fun a6=>AB false 1 a6 h fun a7=>Call TP 38 [a3] h fun a4 h=>((AB false 1 a6 h fun v=>v=a7)∧AC 23 x5 fun a9=>Call TP 64 [a7] h fun a8 h=>AJ 1 a9 a4 h fun h=>AC 3 x5 fun b0=>AC 19 b0 fun b1=>AJ 1 b1 a8 h fun h=>AB true 24 x5 h fun b3=>AH (.arr 24) 32 (AG TP 32) 24 1 [(0,b3)] h fun b4 h=>AM 32 (AG TP 32) 24 232 x3 b4 h fun b5 h=>AD .add x8 (.int .i64 1) fun b6=>r1 b5 b6 h))
 (Q x3 h)
def ABD (Q:Kt)(x6 x7 x3 x8:Value)(h:H):Prop:=Bx (fun r1 x3 x8 h=>Wq Q r1 x6 x7 x3 x8 h) x3 x8 h
def f24 (x0:Value)(h:H)(Q:Kt):Prop:=
 Ab x0 fun x7=>ABD Q x0 x7 (.slice none 0 0) (.int .i64 0) h
def AIJ (Q:Kt)(r:RS):Nat→DJ:=tab [(117,.lp [6,7] [3,8] fun s e l h=>Wq Q (u2 s) (e 6) (e 7) (gl l 0) (gl l 1) h)]
theorem ADU (x0:Value)(h:H)(Q:Kt)(x:f24 x0 h Q):Call TP 24 [x0] h Q:=Bb (AIJ Q) Tryz.func24 (by kernel_rfl) x
def f38 (x0:Value)(h:H)(Q:Kt):Prop:=
 AH (.arr 1) 5 (AG TP 5) 1 0 [] h fun x3 h=>AM 5 (AG TP 5) 1 1 x3 x0 h fun x5 h=>Q x5 h
theorem ADL (x0:Value)(h:H)(Q:Kt)(x:f38 x0 h Q):Call TP 38 [x0] h Q:=Bb nT Tryz.func38 (by kernel_rfl) x
def YE (Q:Kt)(r1:R2)(x6 x7 x3 x8:Value)(h:H):Prop:=
 AD .lss x8 x7 fun x9=>AK x9
 (AI (.slice 2) x6 x8 fun a0=>AB true 2 a0 h fun a1=>AQ (AG TP 56) 56 h fun x5 h=>AJ 2 x5 a1 h fun h=>AC 0 x5 fun a3=>AB false 1 a3 h fun a4=>AC 1 x5 fun a5=>AB false 1 a5 h fun a6=>Call TP 38 [a6] h fun a7 h=>((AB false 1 a3 h fun v=>v=a4)∧Ae (.struct [(0,1),(1,1)]) (AG TP 56) [(0,a4),(1,a7)] fun a8=>AH (.arr 2) 56 (AG TP 56) 2 1 [(0,a8)] h fun a9 h=>AM 56 (AG TP 56) 2 40 x3 a9 h fun b0 h=>AD .add x8 (.int .i64 1) fun b1=>r1 b0 b1 h))
 (Q x3 h)
def ABN (Q:Kt)(x6 x7 x3 x8:Value)(h:H):Prop:=Bx (fun r1 x3 x8 h=>YE Q r1 x6 x7 x3 x8 h) x3 x8 h
def f64 (x0:Value)(h:H)(Q:Kt):Prop:=
 Ab x0 fun x7=>ABN Q x0 x7 (.slice none 0 0) (.int .i64 0) h
def AHl (Q:Kt)(r:RS):Nat→DJ:=tab [(117,.lp [6,7] [3,8] fun s e l h=>YE Q (u2 s) (e 6) (e 7) (gl l 0) (gl l 1) h)]
theorem ADn (x0:Value)(h:H)(Q:Kt)(x:f64 x0 h Q):Call TP 64 [x0] h Q:=Bb (AHl Q) Tryz.func64 (by kernel_rfl) x
def f62 (x0:Value)(h:H)(Q:Kt):Prop:=
 Bq .iface true false h x0 .nilIface fun x4=>AK x4
 (Q (.int .i64 0) h)
 (Call TP 111 [x0] h fun x6 h=>AK x6
 (Q (.int .i64 12) h)
 (Q (.int .i64 13) h))
theorem ACj (x0:Value)(h:H)(Q:Kt)(x:f62 x0 h Q):Call TP 62 [x0] h Q:=Bb nT Tryz.func62 (by kernel_rfl) x
def f13 (x0 x1 x2:Value)(h:H)(Q:Kt):Prop:=
 Call TP 24 [x2] h fun a6 h=>Call TP 23 [x0,x1,a6] h fun a7 h=>AO a7 0 fun a8=>AO a7 1 fun a9=>AO a7 2 fun b0=>AD .neq a9 (.int .i64 0) fun b2=>AK b2
 (Q (.tuple #[(.pointer none),(.bool false)]) h)
 (Call TP 25 [b0] h fun b4 h=>AE b4 fun b7=>AC 2 b7 fun b8=>AB false 1 b8 h fun b9=>Ab b9 fun c0=>AD .eql c0 (.int .i64 0) fun c1=>Q (.tuple #[b4,c1]) h)
theorem AEN (x0 x1 x2:Value)(h:H)(Q:Kt)(x:f13 x0 x1 x2 h Q):Call TP 13 [x0,x1,x2] h Q:=Bb nT Tryz.func13 (by kernel_rfl) x
end
section
variable {h:H} {k:Value→Prop} {kt Q:Kt} {x y r:Res} {wb db:Nat} {S S':PS} {ad:Nat→Nat} {inl:Bool}
attribute [local irreducible] AK Az
def EA:Nat:=17179869184
abbrev QP (wb db:Nat)(inl:Bool):WS:=⟨wb,db,.slice none 0 0,[],0,0,.slice none 0 0,str [],.pointer none,0,0,0,false,inl,EA,0⟩
theorem ADq:(QP wb db inl).OK:=⟨.nil,A39 _,by show EA≤1099511627776;decide⟩
def Xa (wb db:Nat)(inl:Bool)(x:Res)(h:H):Prop:=AN ((QP wb db inl).res+x) h
theorem UO (p:Xa wb db inl x h)(g:JX x)(K:∀ ad h,BM wb ad (S2 [] inl EA db) x h→Q .nilIface h):UX (Pt wb) h Q:=by
 have w:AN ((QP wb db inl).res+x) h:=p
 have hw:(QP wb db inl).wb=wb:=rfl
 rw[←hw]
 unfold UX
 simp only[go_sem,AF w]
 have hi:(!(QP wb db inl).ini)=true:=rfl
 rw[hi,Ak]
 refine Z1 _ _ _ (AG6 ADq g w rfl rfl rfl (by show 4096≤EA;decide) ⟨_,_,_,rfl⟩ fun ad h p=>?_)
 rw[LE,AU]
 have p:BM wb ad (S2 [] inl EA db) x h:=p
 have hcur:(S2 [] inl EA db).cur=none:=rfl
 obtain⟨s,L,tr,a,w⟩:=id p
 have hc:s.cur=.pointer none:=by rw[a.cur,hcur];rfl
 have hs:s.wb=wb:=a.wb
 unfold Kp
 rw[←hs]
 simp only[go_sem,AF w,hc]
 exact K ad h p
theorem Zj:AG TP 184=some (.agg ⟨[.pointer none,.slice none 0 0,str [],.pointer none,.int .i64 0,.int .i64 0,.int .i64 0,.nilIface,.bool false,.bool false,.int .i64 0,.int .u32 0]⟩):=by kernel_rfl
theorem Z8:AG TP 121=some (.agg ⟨[.slice none 0 0,.int .i64 0]⟩):=by kernel_rfl
theorem T6:AG TP 123=some .nilFunc:=by kernel_rfl
theorem s90 {mb:Nat}(w:AN ((QP wb db inl).res+(pts mb (.cells ⟨[.int .i64 ((0:Nat):Int)]⟩ 2 (0,0))+x)) h)(K:∀ h,AN ((QP wb db inl).res+(pts mb (.cells ⟨[.int .i64 ((0:Nat):Int)]⟩ 2 (0,0))+x)) h→Q (.tuple #[]) h):f90 (Pt wb) (Pt mb) h Q:=by
 unfold f90
 have e1:decide (((0:Nat):Int)<0)=false:=rfl
 have e2:decide (((0:Nat):Int)>17592186044416)=false:=rfl
 have e3:decide (((0:Nat):Int)=0)=true:=rfl
 rw[AF w,J7,AT,e1,Cr,AF w,J7,Ao,e2]
 unfold Tw
 rw[AU,AF w,J7,Aa,e3,Ak]
 simp only[go_sem]
 exact AL w (QP wb db inl).cells rfl rfl (by show 10+1≤12;decide) rfl fun h w=>K h w
theorem s53 (w:AN ((QP wb db inl).res+x) h)(K:∀ h,AN ((QP wb db true).res+x) h→Q (.tuple #[]) h):f53 (Pt wb) h Q:=by
 unfold f53
 simp only[go_sem]
 exact AL w (QP wb db true).cells rfl rfl (by show 9+1≤12;decide) rfl fun h w=>K h w
def JV (mb:Nat)(inl:Bool):List Value:=.func (.func 90) #[] #[Pt mb]::if inl=true then [.func (.func 53) #[] #[]] else []
theorem s54 {mb:Nat}{ov:Value}(d:Vec 123 1 ov (JV mb inl).length (JV mb inl) r)(w:AN (pts db (.cells ⟨[.slice none 0 0,.int .i64 ((0:Nat):Int)]⟩ 121 (0,0))+(pts mb (.cells ⟨[.int .i64 ((0:Nat):Int)]⟩ 2 (0,0))+(r+x))) h)
  (K:∀ wb h,Xa wb db inl x h→Q (Pt wb) h):f54 (Pt db) ov h Q:=by
 obtain⟨⟨oa,oc,hov⟩,_⟩:=d.len
 unfold f54
 refine Au Zj rfl (rs:=(QP 0 db false).cells.toList) rfl (BJ w fun wb h w=>?_)
 have k1:∀ A B C R X:Res,A+(B+(C+(R+X)))=A+(B+0)+(C+(R+X)):=by intros;rw[Res.add_zero];ac_rfl
 have w:AN ((QP wb db false).res+(pts mb (.cells ⟨[.int .i64 ((0:Nat):Int)]⟩ 2 (0,0))+(r+x))) h:=w.cast (k1 _ _ _ _ _)
 rw[hov,Aw,←hov]
 unfold ABL
 have k2:∀ W C R X:Res,W+(C+(R+X))=R+(W+(C+X)):=by intros;ac_rfl
 have k3:∀ W C R X:Res,W+(C+(R+X))=W+X+(C+R):=by intros;ac_rfl
 refine Ba (fun m u h'=>∃ i,m=(JV mb inl).length-i∧i≤(JV mb inl).length∧u=.int .i64 (i:Nat)∧AN ((QP wb db (inl&&decide (2≤i))).res+(pts mb (.cells ⟨[.int .i64 ((0:Nat):Int)]⟩ 2 (0,0))+(r+x))) h') (JV mb inl).length ⟨0,rfl,A39 _,rfl,by simpa using w⟩ ?_
 rintro rec m u h' ⟨i,rfl,hi,rfl,w⟩ hrec
 unfold Wc
 rw[AT]
 refine AX (fun hlt=>?_) (fun hge=>?_)
 ·have hlt':i<(JV mb inl).length:=by omega
  have hc:i=0∨(i=1∧inl=true):=by
   cases inl with
   | true=>have:(JV mb true).length=2:=rfl;rw[this] at hlt';rcases (show i=0∨i=1 by omega) with e|e;exact .inl e;exact .inr ⟨e,rfl⟩
   | false=>have:(JV mb false).length=1:=rfl;rw[this] at hlt';exact .inl (by omega)
  rcases hc with rfl|⟨rfl,rfl⟩
  ·refine Bu d (w.cast (k2 _ _ _ _)) (i:=0) rfl ?_
   refine IF (l:=[Pt wb,Pt mb]) rfl (by kernel_rfl) (ABy _ _ _ _ (s90 w fun h w=>?_))
   simp (disch:=omega) only[go_sem]
   refine hrec _ _ _ ⟨1,rfl,hlt',rfl,?_⟩ (by omega)
   have e:(inl&&decide (2≤1))=(inl&&decide (2≤0)):=by simp
   rw[e];exact w
  ·refine Bu d (w.cast (k2 _ _ _ _)) (i:=1) rfl ?_
   refine IF (l:=[Pt wb]) rfl (by kernel_rfl) (ADk _ _ _ (s53 w fun h w=>?_))
   simp (disch:=omega) only[go_sem]
   exact hrec _ _ _ ⟨2,rfl,hlt',rfl,w⟩ (by omega)
 ·have hi':i=(JV mb inl).length:=by omega
  have e:(inl&&decide (2≤i))=inl:=by
   rw[hi']
   unfold JV
   cases inl<;>rfl
  rw[e] at w
  exact K wb h' (w.cast (k3 _ _ _ _)).left
end
section
variable {h:H} {k:Value→Prop} {kt Q:Kt} {x y r:Res} {wb db:Nat} {S S':PS} {ad:Nat→Nat} {inl:Bool}
attribute [local irreducible] AK Az AQ BB Ae AY AH AM
theorem FZ {b o n:Nat}{c:Array Value}{T:TypeId}{fz:Nat×Nat}{v:Value}(w:AN x h)[f:CO b x (.cells c T fz)](hn:o+n≤c.size)(hv:.agg (c.extract o (o+n))=v):AB true n (.pointer (some ⟨b,o,none⟩)) h fun u=>u=v:=by
 rw[Am (w.find (b:=b)) hn]
 exact hv
theorem Tb:AG TP 188=some (.agg ⟨[.bool false,.int .i64 0,.int .i64 0]⟩):=by kernel_rfl
theorem s97 {a:Bool}{b c:Int}(w:AN x h)(K:∀ h,AN x h→Q (.agg ⟨[.bool a,.int .i64 b,.int .i64 c]⟩) h):f97 (.agg ⟨[.bool a,.int .i64 b,.int .i64 c]⟩) h Q:=by
 unfold f97
 refine BJ w fun b1 h w=>?_
 refine Ah w Tb rfl fun b2 h w=>?_
 simp only[go_sem,AF w]
 refine Au Tb rfl (rs:=[.bool a,.int .i64 b,.int .i64 c]) rfl ?_
 refine AL w ⟨[.bool a,.int .i64 b,.int .i64 c]⟩ ((A2 _ _ _).trans rfl) rfl (by simp) rfl fun h w=>?_
 rw[Am (w.find (b:=b2)) (by simp)]
 exact K h w.right.right
set_option maxRecDepth 20000 in
theorem s56 {f:FL}(w:AN x h)(K:∀ fb h,AN (pts fb (.cells ⟨f.cells (.map none)⟩ 191 (0,0))+x) h→Q (Pt fb) h):f56 (.agg ⟨f.cells (.slice none 0 0)⟩) h Q:=by
 unfold f56
 refine BJ w fun b1 h w=>?_
 have w:AN (pts b1 (.cells ⟨f.cells (.slice none 0 0)⟩ 28 (0,0))+x) h:=w
 simp only[go_sem,AF w]
 have hs:∀ o n:Nat,o+n≤20→o+n≤(⟨f.cells (.slice none 0 0)⟩:Array Value).size:=fun o n h=>h
 rw[Am (w.find (b:=b1)) (hs 5 3 (by decide)),Am (w.find (b:=b1)) (hs 8 3 (by decide)),Am (w.find (b:=b1)) (hs 11 3 (by decide)),Am (w.find (b:=b1)) (hs 14 3 (by decide))]
 refine NT _ _ _ (s97 (a:=f.at_.set) (b:=f.at_.sec) (c:=f.at_.ns) w fun h w=>?_)
 refine⟨Ad w rfl,Ad w rfl,Ad w rfl,Ad w rfl,Ad w rfl,FZ w (hs 8 3 (by decide)) rfl,FZ w (hs 11 3 (by decide)) rfl,FZ w (hs 14 3 (by decide)) rfl,Ad w rfl,Ad w rfl,?_⟩
 refine NT _ _ _ (s97 (a:=f.ct.set) (b:=f.ct.sec) (c:=f.ct.ns) w fun h w=>?_)
 refine⟨Ad w rfl,Ad w rfl,Ad w rfl,Ad w rfl,Ad w rfl,FZ w (hs 11 3 (by decide)) rfl,FZ w (hs 14 3 (by decide)) rfl,Ad w rfl,Ad w rfl,?_⟩
 refine NT _ _ _ (s97 (a:=f.mt.set) (b:=f.mt.sec) (c:=f.mt.ns) w fun h w=>?_)
 refine⟨Ad w rfl,Ad w rfl,Ad w rfl,Ad w rfl,Ad w rfl,FZ w (hs 14 3 (by decide)) rfl,Ad w rfl,Ad w rfl,?_⟩
 refine NT _ _ _ (s97 (a:=f.cr.set) (b:=f.cr.sec) (c:=f.cr.ns) w fun h w=>?_)
 refine⟨Ad w rfl,Ad w rfl,Ad w rfl,Ad w rfl,Ad w rfl,Ad w rfl,Ad w rfl,?_⟩
 refine Au M0 rfl (rs:=f.cells (.map none)) (by kernel_rfl) (BJ w fun fb h w=>?_)
 simp only[go_sem,AF w]
 have e1:decide ((0:Nat)>(0:Int))=false:=rfl
 have w:AN (pts fb (.cells ⟨f.cells (.map none)⟩ 191 (0,0))+(pts b1 (.cells ⟨f.cells (.slice none 0 0)⟩ 28 (0,0))+x)) h:=w
 rw[e1,AU]
 unfold TT
 simp only[go_sem,AF w]
 unfold ABW
 refine Ba (fun m u h'=>m=0∧u=.int .i64 ((0:Nat):Int)∧h'=h) 0 ⟨rfl,rfl,rfl⟩ ?_
 rintro rec m u h' ⟨rfl,rfl,rfl⟩ _
 unfold Wx
 have e2:decide (((0:Nat):Int)<((0:Nat):Int))=false:=rfl
 rw[AT,e2,AU]
 have k1:∀ A B X:Res,A+(B+X)=A+X+B:=by intros;ac_rfl
 exact K fb h' (w.cast (k1 _ _ _)).left
theorem s62 (K:Q (.int .i64 0) h):f62 .nilIface h Q:=by
 unfold f62
 simp only[go_sem]
 exact K
inductive Op1 where
 | create (nm:Bs) (f:FL)
 | write (bs:Bs)
def FL0:FL:=⟨[],0,0,0,0,t0,t0,t0,t0,0,0⟩
def Op1.cells:Op1→Value→List Value
 | .create nm f,dv=>[.int .i64 ((0:Nat):Int),str nm,str []]++f.cells (.slice none 0 0)++[dv]
 | .write _,dv=>[.int .i64 ((1:Nat):Int),str [],str []]++FL0.cells (.slice none 0 0)++[dv]
def Op1.data:Op1→Bs
 | .create _ _=>[]
 | .write bs=>bs
theorem Op1.cells_len (o:Op1)(dv:Value):(o.cells dv).length=24:=by cases o<;>rfl
abbrev U1:=Op1×Value
def FC (l:List U1):List Value:=l.flatMap fun o=>o.1.cells o.2
theorem Fy:AG TP 32=some (.agg ⟨(Op1.cells (.create [] FL0) (.slice none 0 0))⟩):=by kernel_rfl
def DY:List Value:=[.int .i64 0,.int .i64 0]++FL0.cells (.slice none 0 0)
theorem IZ:AG TP 36=some (.agg ⟨DY⟩):=by kernel_rfl
end
section
variable {h:H} {k:Value→Prop} {kt Q:Kt} {x y r:Res} {wb db:Nat} {S S':PS} {ad:Nat→Nat} {inl:Bool}
attribute [local irreducible] AK Az AQ BB Ae AY AH AM
def At (wb db:Nat)(inl:Bool)(S:PS)(x:Res)(h:H):Prop:=(S=S2 [] inl EA db∧Xa wb db inl x h)∨(S.inl=inl∧S.db=db∧∃ ad,BM wb ad S x h)
theorem At.opened (p:At wb db inl S x h):∃ r,AN (r+x) h∧∀ x' h',AN (r+x') h'→At wb db inl S x' h':=by
 rcases p with⟨e,w⟩|⟨e1,e2,ad,p⟩
 ·exact⟨(QP wb db inl).res,w,fun x' h' w'=>.inl ⟨e,w'⟩⟩
 ·obtain⟨r,w,cl⟩:=p.opened
  exact⟨r,w,fun x' h' w'=>.inr ⟨e1,e2,ad,cl x' h' w'⟩⟩
theorem V5 {S S':PS}(f:Fin S S')(hc:S.cur=none):S'=S:=by
 cases f with
 | none _=>rfl
 | small h _ _ _ _=>rw[hc] at h;cases h
 | big h _ _ _ _ _ _ _ _ _ _ _=>rw[hc] at h;cases h
theorem W6 (p:At wb db inl S x h)(f:Fin S S')(g:JX x)(K:∀ ad h,BM wb ad S' x h→Q .nilIface h):UX (Pt wb) h Q:=by
 rcases p with⟨e,w⟩|⟨_,_,ad,p⟩
 ·subst e
  rw[V5 f rfl] at K
  exact UO w g K
 ·exact Jq p f (K ad)
theorem ACI {v:Value}{bs:Bs}(p:At wb db inl S x h)(d:RdX x v bs)(f:Wrt bs S S')(K:∀ h,At wb db inl S' x h→Q (.tuple #[.int .i64 (bs.length:Nat),.nilIface]) h):ZX (Pt wb) v h Q:=by
 rcases p with⟨e,w⟩|⟨e1,e2,ad,p⟩
 ·subst e
  cases f with
  | none hb=>
   subst hb
   obtain⟨a',c',hv⟩:=d.len
   exact AEp hv (K h (.inl ⟨rfl,w⟩))
  | disk h _ _ _ _ _ _ _=>cases h
  | inode h _ _ _ _ _ _ _=>cases h
 ·refine G1 p d f fun h p=>K h (.inr ⟨?_,?_,ad,p⟩)
  ·cases f<;>exact e1
  ·cases f<;>exact e2
structure CrOK (S:PS) (nm:Bs) (f:FL) (st:List Bs) (e:Bs) (d:Nat) (q:PN) (es:List (Bs×Nat)):Prop where
 cur:S.cur=none
 len:S.M.length<9999
 root:∃ n,S.M[1]? = some (some n)
 nml:nm.length≤100000
 way:cleanR nm=st++[e]
 el:e.length≤255
 walk:walkP S.M 2 st=some d
 d1:1≤d
 dn:S.M[d-1]? = some (some q)
 dir:kindB q.mode=16384
 kids:q.kids=some es
 new:lookE es e=none
 links:q.links<65000
 file:FileOK f
inductive Step1:Op1→PS→PS→Prop
 | create {S S1:PS} {nm:Bs} {f:FL} {st:List Bs} {e:Bs} {d:Nat} {q:PN} {es:List (Bs×Nat)}:Fin S S1→CrOK S1 nm f st e d q es→Step1 (.create nm f) S (S1.made d q es e f)
 | write {S S':PS} {bs:Bs}:Wrt bs S S'→Step1 (.write bs) S S'
theorem LP {S:PS}{d:Nat}{q:PN}{es:List (Bs×Nat)}{e:Bs}{f:FL}:(S.made d q es e f).inl=S.inl∧(S.made d q es e f).db=S.db:=by
 unfold PS.made
 simp only
 split<;>exact⟨rfl,rfl⟩
theorem Yv {S S':PS}(f:Fin S S'):S'.inl=S.inl∧S'.db=S.db:=by cases f<;>exact⟨rfl,rfl⟩
theorem Uc {nm:Bs}{f:FL}{st:List Bs}{e:Bs}{d:Nat}{q:PN}{es:List (Bs×Nat)}{fb:Nat}{S1:PS}(p:At wb db inl S (pts fb (.cells ⟨f.cells (.map none)⟩ 191 (0,0))+x) h)(g:JX x)(fin:Fin S S1)(c:CrOK S1 nm f st e d q es)
  (K:∀ h,At wb db inl (S1.made d q es e f) x h→Q .nilIface h):f55 (Pt wb) (str nm) (Pt fb) h Q:=by
 have hs:S1.inl=inl∧S1.db=db:=by
  have h1:=Yv fin
  rcases p with⟨e,_⟩|⟨e1,e2,_⟩
  ·rw[h1.1,h1.2,e];exact LP
  ·rw[h1.1,h1.2];exact⟨e1,e2⟩
 refine K3 (S:=S1) (fun Q kk=>W6 p fin g.addR fun ad h p=>kk ad h p) g c.cur c.len c.root c.nml c.way c.el c.walk c.d1 c.dn c.dir c.kids c.new c.links c.file fun ad h p=>K h (.inr ⟨?_,?_,ad,p⟩)
 ·rw[LP.1];exact hs.1
 ·rw[LP.2];exact hs.2
theorem AA8 {rec1:Value→Value→H→Prop}{x9 x11 out x33 x34:Value}{tb i:Nat}{tc:List Value}{vs:List Value}(d:Vec 36 22 out i vs r)(hi:i<100000)(p:At wb db inl S (pts tb (.cells ⟨tc⟩ 36 (0,0))+(r+x)) h)(ht:tc.length=22)(ho:tc.all Value.oneCell'=true)
  (K:∀ out vs r h,Vec 36 22 out (i+1) vs r→At wb db inl S (r+x) h→rec1 out (.int .i64 ((i+1:Nat):Int)) h):IE Q rec1 x9 x11 out (Pt tb) .nilIface x33 x34 (.int .i64 (i:Int)) h:=by
 unfold IE
 refine ACj _ _ _ (s62 ?_)
 obtain⟨r0,w,cl⟩:=p.opened
 obtain⟨t0v,tcr,rfl⟩:∃ a l,tc=a::l:=by cases tc with|nil=>simp at ht|cons a l=>exact⟨a,l,rfl⟩
 have htr:tcr.length=21:=by simpa using ht
 have hor:tcr.all Value.oneCell'=true:=by
  rw[B33,A42] at ho
  exact ho.2
 simp only[go_sem]
 refine AL w ⟨.int .i64 0::tcr⟩ rfl rfl (by simp) rfl fun h w=>?_
 have hsz:0+22≤(⟨.int .i64 0::tcr⟩:Array Value).size:=by simp;omega
 rw[Am (w.find (b:=tb)) hsz]
 have hex:(⟨.int .i64 0::tcr⟩:Array Value).extract 0 (0+22)=⟨.int .i64 0::tcr⟩:=by
  have:(⟨.int .i64 0::tcr⟩:Array Value).size=0+22:=by simp;omega
  rw[←this,Array.extract_size]
 rw[hex]
 have k1:∀ A T R X:Res,A+(T+(R+X))=R+(A+(T+X)):=by intros;ac_rfl
 have hone:(Value.int .i64 0::tcr).all Value.oneCell'=true:=by rw[B33,hor];rfl
 have hlen:(Value.int .i64 0::tcr).length=22:=by simp;omega
 refine CW d (w.cast (k1 _ _ _ _)) IZ rfl hlen (by decide) (by decide) hone fun ab h w=>?_
 refine B0 d w IZ rfl hlen hone (by omega) (by omega) fun out' r' h d' w=>?_
 simp (disch:=omega) only[go_sem]
 have k2:∀ A T R X:Res,R+(A+(T+X))=A+(R+X)+T:=by intros;ac_rfl
 exact K out' _ r' h d' (cl _ _ (w.cast (k2 _ _ _ _)).left)
end
section
variable {h:H} {k:Value→Prop} {kt Q:Kt} {x y r:Res} {wb db:Nat} {S S':PS} {ad:Nat→Nat} {inl:Bool}
attribute [local irreducible] AK Az AQ BB Ae AY AH AM Bp Db setL Bz JQ Pp FD Dl BS
theorem TI (l:List U1)(i:Nat)(o:U1)(ho:l[i]? = some o):((FC l).drop (i*24)).take 24=o.1.cells o.2:=by
 have:=A76 Array.toList (NH (g:=fun o:U1=>o.1.cells o.2) (fun o=>Op1.cells_len _ _) l i o ho)
 simpa[A44,FC] using this
theorem Op1.cells_one (o:Op1)(dv:Value)(h:Value.oneCell' dv=true):(o.cells dv).all Value.oneCell'=true:=by
 have hd:([dv]:List Value).all Value.oneCell'=true:=by simp[h]
 cases o with
 | create nm f=>
  unfold Op1.cells
  rw[List.all_append,hd]
  rfl
 | write bs=>
  unfold Op1.cells
  rw[List.all_append,hd]
  rfl
theorem NO (o:Op1)(dv:Value):Ai ⟨Op1.cells (.create [] FL0) (.slice none 0 0)⟩ 0 (o.cells dv)=⟨o.cells dv⟩:=Ar (by rw[Op1.cells_len,A31,Op1.cells_len])
theorem Mi:Ai ⟨DY⟩ 0 DY=⟨DY⟩:=Ar (by rw[A31])
theorem Dj:DY.length=22:=rfl
theorem IV:DY.all Value.oneCell'=true:=rfl
theorem cr0 (nm:Bs)(f:FL)(dv:Value):(⟨Op1.cells (.create nm f) dv⟩:Array Value)[0]? = some (.int .i64 ((0:Nat):Int))∧(⟨Op1.cells (.create nm f) dv⟩:Array Value)[1]? = some (str nm)∧(⟨Op1.cells (.create nm f) dv⟩:Array Value)[3+1]? = some (.int .i64 f.size)∧
  (⟨Op1.cells (.create nm f) dv⟩:Array Value)[3+2]? = some (.int .u16 f.mode)∧(⟨Op1.cells (.create nm f) dv⟩:Array Value).extract 3 (3+20)=⟨f.cells (.slice none 0 0)⟩:=⟨by kernel_rfl,by kernel_rfl,by kernel_rfl,by kernel_rfl,by kernel_rfl⟩
theorem wr0 (bs:Bs)(dv:Value):(⟨Op1.cells (.write bs) dv⟩:Array Value)[0]? = some (.int .i64 ((1:Nat):Int))∧(⟨Op1.cells (.write bs) dv⟩:Array Value)[23]? = some dv:=⟨by kernel_rfl,by kernel_rfl⟩
theorem Ve (n:Nat):Ai ⟨DY⟩ 1 [.int .i64 (n:Int)]=⟨DY.set 1 (.int .i64 (n:Int))⟩:=by kernel_rfl
theorem M9 (n:Nat):(DY.set 1 (.int .i64 (n:Int))).all Value.oneCell'=true:=by kernel_rfl
attribute [local irreducible] Op1.cells DY
section step
variable {rec1:Value→Value→H→Prop} {x9 x34 out ov:Value} {i n:Nat} {vs:List Value} {ro rd:Res} {l:List U1}
set_option maxRecDepth 20000 in
theorem AHZ {o:U1}(dop:Vec 32 24 ov n (FC l) ro)(hn:l.length=n)(hn2:n≤10000)(ho:l[i]? = some o)(hone:Value.oneCell' o.2=true)(hdat:RdX rd o.2 o.1.data)(hdl:o.1.data.length≤100000000)(d:Vec 36 22 out i vs r)(st:Step1 o.1 S S')(g:JX x)
  (p:At wb db inl S (r+(ro+(rd+x))) h) (K:∀ out vs r h,Vec 36 22 out (i+1) vs r→At wb db inl S' (r+(ro+(rd+x))) h→rec1 out (.int .i64 ((i+1:Nat):Int)) h) :
  Ly Q rec1 x9 (Pt wb) ov (.int .i64 (n:Int)) out (.int .i64 (i:Int)) h:=by
 have hi:i<n:=by rw[←hn];exact (A02.1 ho).1
 obtain⟨op,dv⟩:=o
 obtain⟨r0,w,cl⟩:=p.opened
 unfold Ly
 have e1:decide ((i:Int)<(n:Int))=true:=A04 (by omega)
 rw[AT,e1,Ak]
 have k1:∀ A R O X:Res,A+(R+(O+X))=O+(A+(R+X)):=by intros;ac_rfl
 refine M8 (i:=i) dop (w.cast (k1 _ _ _ _)) hi ?_
 have hat:((FC l).drop (i*24)).take 24=op.cells dv:=TI l i _ ho
 rw[hat]
 refine Ah w Fy rfl fun pb h w=>?_
 have hcl:=Op1.cells_len op dv
 cases st with
 | create fin c=>
  rename_i S1 nm f st e dd q es
  have hfile:=c.file
  have hm:=hfile.mode
  have hsize:=hfile.size
  refine AL w ⟨Op1.cells (.create nm f) dv⟩ (NO _ _) hcl (by rw[A31,Op1.cells_len];exact A07 24) (Op1.cells_one _ _ hone) fun h w=>?_
  refine Au IZ rfl (rs:=DY) rfl ?_
  refine Ah w IZ rfl fun tb h w=>?_
  refine AL w ⟨DY⟩ Mi Dj (by rw[A31,Dj];exact A07 22) IV fun h w=>?_
  obtain⟨c0,c1,c4,c5,hex⟩:=cr0 nm f dv
  have e2:decide (((0:Nat):Int)=0)=true:=rfl
  have e3:decide ((f.size:Int)<0)=false:=A08 (by omega)
  simp (disch:=omega) only[DW,Fp,Bm,AF w,c0,c4,c5,Fi,Aa,e2,Ak,Jk,AT,e3,Cr]
  simp only[SR,PD,Cq,Cr]
  unfold OP
  rw[AU]
  simp only[DW,Fp,AF w,c1,Fi]
  have hsz:3+20≤(⟨Op1.cells (.create nm f) dv⟩:Array Value).size:=by rw[A31,hcl];decide
  rw[Am (w.find (b:=pb)) hsz]
  rw[hex]
  refine ACe _ _ _ (s56 w fun fb h w=>⟨Ad w c1,?_⟩)
  have k2:∀ F T P A X:Res,F+(T+(P+(A+X)))=A+(F+(T+(P+X))):=by intros;ac_rfl
  refine Xm _ _ _ _ _ (Uc (cl _ _ (w.cast (k2 _ _ _ _ _))) g.addR.addR.addR.addR.addR fin c fun h p=>?_)
  have k3:∀ A T P R Y:Res,A+(T+(P+(R+Y)))=A+(T+(R+(P+Y))):=by intros;ac_rfl
  obtain⟨r1,w1,cl1⟩:=p.opened
  have p:At wb db inl (S1.made dd q es e f) (pts tb (.cells ⟨DY⟩ 36 (0,0))+(r+(pts pb (.cells ⟨Op1.cells (.create nm f) dv⟩ 32 (0,0))+(ro+(rd+x))))) h:=cl1 _ _ (w1.cast (k3 _ _ _ _ _))
  refine AA8 d (by omega) p Dj IV fun out vs r h d p=>?_
  obtain⟨r2,w2,cl2⟩:=p.opened
  have k4:∀ A R P Y:Res,A+(R+(P+Y))=A+(R+Y)+P:=by intros;ac_rfl
  exact K out vs r h d (cl2 _ _ (w2.cast (k4 _ _ _ _)).left)
 | write wr=>
  rename_i bs
  refine AL w ⟨Op1.cells (.write bs) dv⟩ (NO _ _) hcl (by rw[A31,Op1.cells_len];exact A07 24) (Op1.cells_one _ _ hone) fun h w=>?_
  refine Au IZ rfl (rs:=DY) rfl ?_
  refine Ah w IZ rfl fun tb h w=>?_
  refine AL w ⟨DY⟩ Mi Dj (by rw[A31,Dj];exact A07 22) IV fun h w=>?_
  obtain⟨c0,c23⟩:=wr0 bs dv
  have e2:decide (((1:Nat):Int)=0)=false:=rfl
  have e3:decide (((1:Nat):Int)=1)=true:=rfl
  simp only[DW,Fp,AF w,c0,c23,Fi,Aa,e2,e3,Ak,AU]
  have hdat:RdX rd dv bs:=hdat
  have hdl:bs.length≤100000000:=hdl
  refine BU (bs:=[]) (r:=0) .nil (w.cast (Res.zero_add _).symm) ((hdat.addL.addR.addR.addR.addR.addR).rd w) (by simp;omega) fun cv cr h cb w=>?_
  rw[A34] at cb
  have k2:∀ C T P A X:Res,C+(T+(P+(A+X)))=A+(C+(T+(P+X))):=by intros;ac_rfl
  refine Ip _ _ _ _ (ACI (cl _ _ (w.cast (k2 _ _ _ _ _))) cb.rdX.addL wr fun h p=>?_)
  obtain⟨r1,w1,cl1⟩:=p.opened
  simp only[DA,DH,DW,Fp]
  refine AL w1 ⟨DY.set 1 (.int .i64 (bs.length:Nat))⟩ (Ve _) rfl (by rw[A31,Dj];decide) rfl fun h w1=>?_
  have k3:∀ A C T P R Y:Res,A+(C+(T+(P+(R+Y))))=A+(T+(R+(C+(P+Y)))):=by intros;ac_rfl
  have p:At wb db inl S' (pts tb (.cells ⟨DY.set 1 (.int .i64 (bs.length:Nat))⟩ 36 (0,0))+(r+(cr+(pts pb (.cells ⟨Op1.cells (.write bs) dv⟩ 32 (0,0))+(ro+(rd+x)))))) h:=cl1 _ _ (w1.cast (k3 _ _ _ _ _ _))
  refine AA8 d (by omega) p (by rw[A89];exact Dj) (M9 _) fun out vs r h d p=>?_
  obtain⟨r2,w2,cl2⟩:=p.opened
  have k4:∀ A R C P Y:Res,A+(R+(C+(P+Y)))=A+(R+Y)+(C+P):=by intros;ac_rfl
  exact K out vs r h d (cl2 _ _ (w2.cast (k4 _ _ _ _ _)).left)
end step
end
end Go.Proofs.YtollddkkdgoonaaGreatDoor
