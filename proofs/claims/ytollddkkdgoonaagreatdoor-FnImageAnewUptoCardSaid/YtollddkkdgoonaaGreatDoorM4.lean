/- A step. No condition. -/
import Derived.Test.YtollddkkdgoonaaGreatDoorM3
namespace Go.Proofs.YtollddkkdgoonaaGreatDoor
open Go
set_option linter.unusedVariables false
set_option linter.unusedSimpArgs false
set_option linter.defProp false
set_option maxRecDepth 100000
variable {h:H} {k:Value->Prop} {kt Q:Kt} {x y z r:Res}
structure XA where
 nm:Bs
 ix:Nat
 v:Vz
 bs:Bs
abbrev XA.cells (a:XA):List Vz:=[str a.nm,.int .u8 a.ix,a.v]
def xaCs (l:List XA):List Vz:=l.flatMap XA.cells
def XA.need (a:XA):Nat:=Bg a.nm.length+16+Bg a.bs.length
def HC:Am TP 291=some (.agg ⟨[str [],Ax,.slice none 0 0]⟩):=by kernel_rfl
def CN {T:Tj}{sz n:Nat}{z:Option Vz}{zv v:Vz}{vs es:List Vz}(d:Vec T sz v n vs r)(w:AN (r+x) h)(s:z=some zv)(t:zv.cells.size=sz)(p:es.length=sz)(u:0<sz)(q:sz<=1000)(ho:es.all Value.oneCell'=true)
  (K:∀ b h,AN (pts b (.cells ⟨es⟩ T (0,0))+(r+x)) h->kt (.slice (some ⟨b,0,none⟩) 1 1) h) :
  AK (.arr sz) T z sz 1 [(0,.agg ⟨es⟩)] h kt:=by
 refine⟨zv,⟨es⟩,s,by omega,?_,fun b m ex f j=>K b m (w.new ex f j)⟩;have l:(BN zv.cells (1*sz)).size=sz:=by simp[BN]
 rw[F0 (by omega)];obtain⟨c,i⟩:∃ c,BN zv.cells (1*sz)=⟨c⟩:=⟨_,rfl⟩;rw[i] at l ⊢;have a:c.length=sz:=by simpa using l
 refine EE _ _ _ ?_;have g:IW c 0 es=es:=by
  have e:=Ib (all:=c) (news:=es) (o:=0) (by omega);rw[AY] at e;simp only[U1,K7,U2] at e;rw[X2 (by rw[Mt];omega)] at e;exact e
 unfold Du;simp only[DB,Value.cells,p,a];rw[F0 (by omega)];simp only[Du,G6];rw[g]
def CA {T:Tj}{sz a n b:Nat}{z:Option Vz}{zv v:Vz}{vs es:List Vz}(d:Vec T sz v n vs r)(w:AN (pts b (.cells ⟨es⟩ T (0,0))+(r+x)) h)(j:z=some zv)(e:zv.cells.size=sz)(g:es.length=sz)(i:es.all Value.oneCell'=true)
  (f:(n+1)*a<=140737488355328) (c:n+1<=140737488355328) (K:∀ v r h,Vec T sz v (n+1) (vs++es) r->AN (r+x) h->kt v h) :
  Ac T z sz a v (.slice (some ⟨b,0,none⟩) 1 1) h kt:=by
 refine⟨1,⟨es⟩,rfl,?_,LV d (w.cast (Res.left_comm _ _ _)) j e f c i (by omega) fun v r h d w=>K v r h d (AN.left (y:=pts b (.cells ⟨es⟩ T (0,0))) (w.cast (by ac_rfl)))⟩;unfold By;simp only[w.left.one,Z5,K3,if_false];rw[D0 (by simp;omega)];congr 1;apply P4;simp[I3,<-g]
structure XS where
 iv:Vz
 il:List XA
 ir:Res
 bv:Vz
 bl:List XA
 br:Res
 ef:Nat
 bw:Nat
abbrev XS.res (b:Nat)(s:XS):Res:=pts b (.cells ⟨[s.iv,s.bv,AB s.ef,AB s.bw]⟩ 284 (0,0))+(s.ir+s.br)
structure XS.OK (s:XS):Prop where
 i:Vec 291 3 s.iv s.il.length (xaCs s.il) s.ir
 b:Vec 291 3 s.bv s.bl.length (xaCs s.bl) s.br
 il:s.ef<=96/\s.il.length+s.bl.length<=1000
 bl:s.bw<=4060
theorem AP1 {sb:Nat}{s:XS}{nm bs:Bs}{v:Vz}(g:HU x)(ok:s.OK)(w:AN (s.res sb+x) h)(hn:nm.length<100000)(d:RdX x v bs)(u:bs.length<100000)(e:XA.need ⟨(compL nm PX).2,(compL nm PX).1,v,bs⟩<=s.ef)(m:(compL nm PX).2.length<=nm.length)
  (K:∀ iv ir h,XS.OK {s with iv:=iv,il:=s.il++[⟨(compL nm PX).2,(compL nm PX).1,v,bs⟩],ir:=ir,ef:=s.ef-XA.need ⟨(compL nm PX).2,(compL nm PX).1,v,bs⟩} ->
   AN (XS.res sb {s with iv:=iv,il:=s.il++[⟨(compL nm PX).2,(compL nm PX).1,v,bs⟩],ir:=ir,ef:=s.ef-XA.need ⟨(compL nm PX).2,(compL nm PX).1,v,bs⟩}+x) h->Q AI h) (l:s.il.length+s.bl.length<1000) :
  AL0 (Pt sb) (str nm) v h Q:=by
 obtain⟨a,c,t⟩:=d.len;have o:=ok.il.1;unfold XA.need at e K;simp only at e K;unfold AL0 AW;refine AGP (ASn g.bf w (by omega) fun h w=>?_);generalize n:compL nm PX=cx at *;obtain⟨ix,rest⟩:=cx;simp only at *;simp (disch:=omega) only[go_sem];rw[t] at *;refine BA HC rfl rfl (AV w HC rfl fun xb h w=>?_);refine AD w ⟨[str rest,.int .u8 ix,.slice a bs.length c]⟩ rfl rfl (by simp) rfl fun h w=>?_;refine SH (AN4 (nm:=rest) (ix:=ix) (v:=.slice a bs.length c) (T:=291) w (by omega) ?_);refine f0 (AQI (nm:=rest) (ix:=ix) (a:=a) (T:=291) w (by omega) ?_);have p:Bg rest.length<=rest.length+3:=by unfold Bg;omega
 have q:Bg bs.length<=bs.length+3:=by unfold Bg;omega
 simp (disch:=omega) only[go_sem,AC w,H0];rw[BC (w.find (b:=xb)) (by simp)];have f:(⟨[str rest,.int .u8 ix,.slice a bs.length c]⟩:Array Vz).extract 0 (0+3)=⟨[str rest,.int .u8 ix,.slice a bs.length c]⟩:=rfl;rw[f];refine CN (x:=pts sb (.cells ⟨[s.iv,s.bv,AB s.ef,AB s.bw]⟩ 284 (0,0))+(s.br+x)) ok.i (AN.right (x:=pts xb (.cells ⟨[str rest,.int .u8 ix,.slice a bs.length c]⟩ 291 (0,0))) (w.cast (by unfold XS.res;ac_rfl))) HC rfl rfl (by omega) (by omega) rfl fun tb h w=>⟨Aj w rfl,?_⟩;refine CA ok.i w HC rfl rfl rfl (by omega) (by omega) fun iv ir h dv w=>?_;obtain⟨⟨a2,c2,i⟩,_⟩:=dv.len;subst i;refine AD w ⟨[.slice a2 (s.il.length+1) c2,s.bv,AB s.ef,AB s.bw]⟩ rfl rfl (by simp) rfl fun h w=>?_;simp (disch:=omega) only[go_sem,AC w];refine AD w ⟨[.slice a2 (s.il.length+1) c2,s.bv,AB ((s.ef-(Bg rest.length+16+Bg bs.length):Nat):Int),AB s.bw]⟩ rfl rfl (by simp) rfl fun h w=>?_;have j:s.ef-(Bg rest.length+16+Bg bs.length)<=96:=by omega
 refine K (.slice a2 (s.il.length+1) c2) ir h ⟨?_,ok.b,⟨j,by simp;omega⟩,ok.bl⟩ (w.cast (by unfold XS.res;dsimp only;ac_rfl));have:xaCs (s.il++[⟨rest,ix,.slice a bs.length c,bs⟩])=xaCs s.il++[str rest,.int .u8 ix,.slice a bs.length c]:=by simp[xaCs]
 rw[this,C0];exact dv
section
def TI {T:Tj}{sz n i:Nat}{kk:Iq}{v:Vz}{vs:List Vz}(d:Vec T sz v n vs r)(w:AN (r+x) h)(hi:i<n)(K:k (.agg ⟨(vs.drop (i*sz)).take sz⟩)):Ap (.slice sz) v (.int kk (i:Int)) fun a=>Ae true sz a h k:=by
 cases d with
 | nil=>omega
 | own f l=>
  rename_i b c all;refine⟨kk,i,rfl,_,n,c,rfl,by omega,by omega,?_⟩;have e:=H3 sz (show i+1<=n by omega);rw[V5,P6] at e;have g:=H3 sz f;rw[J5,Cb,U1];show Ae true sz (.pointer (some ⟨b,i*sz,none⟩)) h k;rw[BC w.left.one (by simp;omega)];have:(⟨all⟩:Array Vz).extract (i*sz) (i*sz+sz)=⟨((all.take (n*sz)).drop (i*sz)).take sz⟩:=by
   apply P4;rw[Array.toList_extract,I3];apply O4;intro j
   grind
  rw[this];exact K
theorem lx:∀ (l:List XA) (i:Nat) (a:XA),l[i]? = some a->((xaCs l).drop (i*3)).take 3=a.cells
 | [],i,a,h=>by simp at h
 | b::l,0,a,h=>by simp at h;subst h;simp[xaCs]
 | b::l,i+1,a,h=>by
  have:=lx l i a (by simpa using h);rw[show (i+1)*3=i*3+3 by omega];have e:(xaCs (b::l)).drop (i*3+3)=(xaCs l).drop (i*3):=by
   unfold xaCs;rw[O8,<-H5];rfl
  rw[e];exact this
def p9 {kk:Iq}{b o n c l:Nat}(f:l<=n)(g:n<=c):Cf (.slice 1) (.slice (some ⟨b,o,none⟩) n c) (some (.int kk (l:Int))) none k=k (.slice (some ⟨b,if l=c then o else o+l,none⟩) (n-l) (c-l)):=by
 have e:Bi (.slice 1) (.slice (some ⟨b,o,none⟩) n c) (some (.int kk (l:Int))) none=some (.slice (some ⟨b,if l=c then o else o+l,none⟩) (n-l) (c-l)):=by
  have i:Bb 0 (some (.int kk (l:Int)))=some l:=by simp[Bb]
  unfold Bi;rw[i];simp only[Bb];rw[D0 ⟨f,g⟩,M5];by_cases d:l=c
  ·rw[D0 d.symm,D0 d]
  ·rw[F0 (fun h=>d h.symm),F0 d,N5,Cb]
 exact propext ⟨fun⟨v,a,b⟩=>by rw[e] at a;cases a;exact b,fun a=>⟨_,e,a⟩⟩
@[go_sem] def AOe {kk:Iq}{b o n c l:Nat}(a:(OfNat.ofNat l:Int)<(n:Int))(d:n<=c):Cf (.slice 1) (.slice (some ⟨b,o,none⟩) n c) (some (.int kk (no_index (OfNat.ofNat l:Int)))) none k=k (.slice (some ⟨b,o+l,none⟩) (n-l) (c-l)):=
 JX (l:=l) (Nat.le_of_lt (S7.1 a)) d (by have:=S7.1 a;omega)
def Pd {l:Bs}{o:Nat}:setL l o []=l:=by simp[setL]
def JR (all:Bs)(o e t delta:Nat)(a:XA):Bs:=
 let t':=t-Bg a.bs.length
 setL (setL (setL (setL (setL (setL (setL all (o+e) [UInt8.ofNat a.nm.length]) (o+e+1) [UInt8.ofNat a.ix]) (o+e+2) (BR (t'+delta))) (o+e+8) (Ag a.bs.length)) (o+e+12) (Ag (hashX a.nm a.bs))) (o+e+16) a.nm) (o+t') a.bs
def Ej (o delta:Nat):List XA->Nat->Nat->Bs->Bs
 | [],_,_,all=>all
 | a::l,e,t,all=>Ej o delta l (e+16+Bg a.nm.length) (t-Bg a.bs.length) (JR all o e t delta a)
def needs (l:List XA):Nat:=(l.map XA.need).sum
def QJ {m:Nat}(h:m<256):Value.int .u8 (m:Int)=bc (UInt8.ofNat m):=by rw[bc];simp;omega
theorem PM {all:Bs}{o e t delta:Nat}{a:XA}(p:o+e+16+Bg a.nm.length<=all.length)(q:Bg a.bs.length<=t)(s:o+t<=all.length):(JR all o e t delta a).length=all.length:=by
 have i:a.nm.length<=Bg a.nm.length:=by unfold Bg;omega
 have j:a.bs.length<=Bg a.bs.length:=by unfold Bg;omega
 have ll:∀ n,(BR n).length=2:=fun _=>rfl;have b:∀ n,(Ag n).length=4:=fun _=>rfl;unfold JR;simp only;have e1:(setL all (o+e) [UInt8.ofNat a.nm.length]).length=all.length:=Ad (by simp;omega);have e2:=(Ad (l:=setL all (o+e) [UInt8.ofNat a.nm.length]) (m:=[UInt8.ofNat a.ix]) (o:=o+e+1) (by rw[e1];simp;omega)).trans e1;have c:=(Ad (l:=setL (setL all (o+e) [UInt8.ofNat a.nm.length]) (o+e+1) [UInt8.ofNat a.ix]) (m:=BR (t-Bg a.bs.length+delta)) (o:=o+e+2) (by rw[e2,ll];omega)).trans e2;have d:=(Ad (m:=Ag a.bs.length) (o:=o+e+8) (by rw[c,b];omega)).trans c;have f:=(Ad (m:=Ag (hashX a.nm a.bs)) (o:=o+e+12) (by rw[d,b];omega)).trans d;have g:=(Ad (m:=a.nm) (o:=o+e+16) (by rw[f];omega)).trans f;exact (Ad (m:=a.bs) (o:=o+(t-Bg a.bs.length)) (by rw[g];omega)).trans g
attribute [irreducible] JR
def FS {all:Bs}{o e t delta:Nat}{a:XA}:JR all o e t delta a=setL (setL (setL (setL (setL (setL (setL all (o+e) [UInt8.ofNat a.nm.length]) (o+e+1) [UInt8.ofNat a.ix]) (o+e+2) (BR (t-Bg a.bs.length+delta))) (o+e+8) (Ag a.bs.length)) (o+e+12) (Ag (hashX a.nm a.bs))) (o+e+16) a.nm) (o+(t-Bg a.bs.length)) a.bs:=by
 unfold JR;rfl
def tf {b o t n l:Nat}{all src:Bs}{s:Vz}{T:Tj}(w:AN (pts b (.cells (bcs all) T (0,0))+x) h)(d:RdX x s src)(g:l<=t)(f:t<=n)(e:src.length<=t-l)(c:o+t<=all.length)
  (K:∀ h,AN (pts b (.cells (bcs (setL all (o+l) src)) T (0,0))+x) h->kt (AB (src.length:Nat)) h):JB 1 (.slice (some ⟨b,if l=n then o else o+l,none⟩) (t-l) (n-l)) s h kt:=by
 by_cases a:l=n
 ·rw[D0 a];have:src=[]:=X4.1 (by omega);subst this;refine Hc w d (by simp;omega) (by simp) fun h w=>K h ?_;rw[Pd] at w ⊢;exact w
 ·rw[F0 a];exact Hc w d (by omega) e K
theorem AP9 {Q:Kt}{rec:Vz->Vz->Vz->Vz->H->Prop}{l:List XA}{rX:Res}{bb o n c delta i e t:Nat}{all:Bs}{T TX:Tj}{a:XA}{xa:Option Addr}{xc:Nat}(dx:Vec TX 3 (.slice xa l.length xc) l.length (xaCs l) rX)
  (w:AN (pts bb (.cells (bcs all) T (0,0))+(rX+x)) h) (ha:l[i]? = some a) (b:RdX x a.v a.bs) (u:a.nm.length<256) (s:a.ix<256) (ae:a.bs.length<100000) (hi:i<l.length) (ai:l.length<=1000)
  (ho:o+n<=all.length) (ao:n<=c) (au:t<=n) (aj:n+delta<65536) (ar:e+(Bg a.nm.length+16+Bg a.bs.length)+4<=t)
  (K:∀ h,AN (pts bb (.cells (bcs (JR all o e t delta a)) T (0,0))+(rX+x)) h->rec (cU16 ((t-Bg a.bs.length+delta:Nat):Int)) (.slice (some ⟨bb,o+(e+16+Bg a.nm.length),none⟩) (n-(e+16+Bg a.nm.length)) (c-(e+16+Bg a.nm.length))) (.slice (some ⟨bb,o,none⟩) (t-Bg a.bs.length) c) (AB ((i+1:Nat):Int)) h) :
  OW Q rec (.slice xa l.length xc) (AB (l.length:Int)) (cU16 ((t+delta:Nat):Int)) (.slice (some ⟨bb,o+e,none⟩) (n-e) (c-e)) (.slice (some ⟨bb,o,none⟩) t c) (AB (i:Int)) h:=by
 obtain⟨va,vc,d⟩:=b.len;have aw:a.nm.length<=Bg a.nm.length/\Bg a.nm.length<=a.nm.length+3:=by unfold Bg;omega
 have ay:a.bs.length<=Bg a.bs.length/\Bg a.bs.length<=a.bs.length+3:=by unfold Bg;omega
 have ah:hashX a.nm a.bs=hashX a.nm a.bs:=rfl;have ll:∀ n,(BR n).length=2:=fun _=>rfl;have g:∀ n,(Ag n).length=4:=fun _=>rfl;rw[FS] at K;unfold OW BL;simp (disch:=omega) only[go_sem,H0];refine TI (i:=i) dx (w.cast (Res.left_comm _ _ _)) hi ?_;rw[lx l i a ha];refine AV w HC rfl fun xb h w=>?_;refine AD w (xaC a.nm a.ix a.v) rfl rfl (by simp) (by show List.all [str a.nm,.int .u8 a.ix,a.v] _=true;rw[d];rfl) fun h w=>?_;rw[d] at w b;refine f0 (AQI (nm:=a.nm) (ix:=a.ix) (a:=va) (T:=291) w (by omega) ?_);have e0:=AE0 (m:=Bg a.bs.length) (by omega);simp (disch:=omega) only[go_sem,AC w,LX];have e1:(setL all (o+e) [UInt8.ofNat a.nm.length]).length=all.length:=Ad (by simp;omega);have e2:=(Ad (l:=setL all (o+e) [UInt8.ofNat a.nm.length]) (m:=[UInt8.ofNat a.ix]) (o:=o+e+1) (by rw[e1];simp;omega)).trans e1;have j:=(Ad (m:=BR (t-Bg a.bs.length+delta)) (o:=o+e+2) (by rw[e2,ll];omega)).trans e2;have p:=(Ad (m:=Ag a.bs.length) (o:=o+e+8) (by rw[j,g];omega)).trans j;have q:=(Ad (m:=Ag (hashX a.nm a.bs)) (o:=o+e+12) (by rw[p,g];omega)).trans p;have e6:=(Ad (m:=a.nm) (o:=o+e+16) (by rw[q];omega)).trans q;have f:t+delta-Bg a.bs.length=t-Bg a.bs.length+delta:=by omega
 rw[f,QJ u,Z4];refine Dc (w.cast (Res.left_comm _ _ _)) (by omega) fun h w=>?_;simp (disch:=omega) only[go_sem,AC w];rw[QJ s];refine Dc w (by rw[e1];omega) fun h w=>?_;refine AGT (ASr w (by omega) (by rw[e2];omega) fun h w=>?_);simp (disch:=omega) only[go_sem,AC w];refine Nf (AN7 w (by omega) (by rw[j];omega) fun h w=>?_);simp (disch:=omega) only[go_sem,AC w];refine AGU (ASs w (b.bf.bf.bf) (by omega) (by omega) fun h w=>?_);refine Nf (AN7 w (by omega) (by rw[p];omega) fun h w=>?_);simp (disch:=omega) only[go_sem,AC w];refine OI w (by rw[q];omega) (by omega) fun h w=>?_;refine SH (AN4 (nm:=a.nm) (ix:=a.ix) (v:=.slice va a.bs.length vc) (T:=291) w (by omega) ?_);simp (disch:=omega) only[JX,p9,Ve,go_sem,AC w];refine tf w b.bf.bf (by omega) (by omega) (by omega) (by rw[e6];omega) fun h w=>?_;have q1:o+e+(Bg a.nm.length+16)=o+(e+16+Bg a.nm.length):=by omega
 have q2:n-e-(Bg a.nm.length+16)=n-(e+16+Bg a.nm.length):=by omega
 have q3:c-e-(Bg a.nm.length+16)=c-(e+16+Bg a.nm.length):=by omega
 rw[q1,q2,q3];exact K _ (AN.right (x:=pts xb (.cells (xaC a.nm a.ix (.slice va a.bs.length vc)) 291 (0,0))) (w.cast (Res.left_comm _ _ _)))
def AP8 {xv:Vz}{l:List XA}{rX:Res}{bb o n c delta:Nat}{all0:Bs}{T TX:Tj}(dx:Vec TX 3 xv l.length (xaCs l) rX)(w:AN (pts bb (.cells (bcs all0) T (0,0))+(rX+x)) h)(au:∀ a∈l,RdX x a.v a.bs/\a.nm.length<256/\a.ix<256/\a.bs.length<100000)
  (ho:o+n<=all0.length) (ai:n<=c) (d:needs l+4<=n) (ah:n+delta<65536) (v:l.length<=1000) (K:∀ h,AN (pts bb (.cells (bcs (Ej o delta l 0 n all0)) T (0,0))+(rX+x)) h->Q (.tuple #[]) h) :
  AMF xv (.slice (some ⟨bb,o,none⟩) n c) (cU16 (delta:Int)) h Q:=by
 obtain⟨⟨xa,xc,ay⟩,_⟩:=dx.len;subst ay;unfold AMF AW;simp (disch:=omega) only[go_sem];unfold AAY;refine APX (fun m v6 v7 v8 g h'=>∃ i e t all,m=l.length-i/\i<=l.length/\v6=cU16 ((t+delta:Nat):Int)/\v7=.slice (some ⟨bb,o+e,none⟩) (n-e) (c-e)/\v8=.slice (some ⟨bb,o,none⟩) t c/\g=AB (i:Nat)/\
   AN (pts bb (.cells (bcs all) T (0,0))+(rX+x)) h'/\all.length=all0.length/\e+needs (l.drop i)+4<=t/\t<=n/\Ej o delta (l.drop i) e t all=Ej o delta l 0 n all0) l.length
  ⟨0,0,n,all0,rfl,Q2 _,rfl,rfl,rfl,rfl,w,rfl,by simpa using d,I0 _,rfl⟩ ?_
 rintro rec m v6 v7 v8 g h' ⟨i,e,t,all,rfl,hi,rfl,rfl,rfl,rfl,w,p,az,aw,s⟩ f;by_cases ae:i<l.length
 ·obtain⟨a,j⟩:∃ a,l[i]? = some a:=⟨_,B0 (by omega)⟩;obtain⟨ar,ao,u,q⟩:=au a (D1 j);have b:l.drop i=a::l.drop (i+1):=by
   rw[N3 (by omega)];rw[B0 (by omega)] at j;rw[V0 j]
  have aj:needs (l.drop i)=a.need+needs (l.drop (i+1)):=by rw[b];rfl
  unfold XA.need at aj;have bg:a.bs.length<=Bg a.bs.length:=by unfold Bg;omega
  refine AP9 dx w j ar ao u q ae v (by omega) ai aw ah (by omega) fun h w=>?_;refine f (l.length-(i+1)) _ _ _ _ _ ⟨i+1,e+16+Bg a.nm.length,t-Bg a.bs.length,JR all o e t delta a,rfl,by omega,rfl,rfl,rfl,rfl,w,?_,by omega,by omega,?_⟩ (by omega)
  ·rw[PM (by omega) (by omega) (by omega)];exact p
  ·rw[<-s,b,Ej]
 ·have:i=l.length:=by omega
  subst this;unfold OW BL;simp (disch:=omega) only[go_sem,J0];rw[X6,Ej] at s;rw[s] at w;exact K _ w
end
def NM (l:List XA):Bs:=Ej 4 0 l 0 100 (setL (List.replicate 104 0) 0 (Ag 3925999616))
theorem Qv (o delta:Nat):∀ (l:List XA) (e t:Nat) (all:Bs),o+t<=all.length->e+needs l+4<=t->(Ej o delta l e t all).length=all.length
 | [],_,_,_,_,_=>rfl
 | a::l,e,t,all,h1,h2=>by
  have c:needs (a::l)=a.need+needs l:=rfl;unfold XA.need at c;have b:=PM (all:=all) (o:=o) (e:=e) (t:=t) (delta:=delta) (a:=a) (by omega) (by omega) h1;rw[Ej,Qv o delta l _ _ _ (by rw[b];omega) (by omega),b]
def Ub {l:List XA}(h:needs l<=96):(NM l).length=104:=by
 unfold NM;have a:(setL (List.replicate 104 (0:UInt8)) 0 (Ag 3925999616)).length=104:=by rw[Ad (by decide)];simp
 rw[Qv _ _ _ _ _ _ (by rw[a];omega) (by omega),a]
def AP2 {n:Nd}{nb sb:Nat}{s:XS}{v0:Vz}(ok:s.OK)(w:AN (pts nb (.cells n.cells 197 (0,0))+(s.res sb+x)) h)(b:s.il=[])(a:s.bl=[])(e:n.xblk=0)
  (K:∀ h,AN (pts nb (.cells n.cells 197 (0,0))+(s.res sb+x)) h->Q .nilIface h):ou v0 (Pt nb) (Pt sb) h Q:=by
 obtain⟨⟨g,ic,hi⟩,_⟩:=ok.i.len;obtain⟨⟨f,d,c⟩,_⟩:=ok.b.len;rw[b] at hi;rw[a] at c;unfold ou AW;refine BG w fun cb h w=>?_;simp (disch:=omega) only[go_sem,AC w,hi,Value.cells,C4,J0];unfold Xk AW;simp (disch:=omega) only[go_sem,AC w,c,Value.cells,C4,J0,e];unfold Xj AW;simp only[go_sem];exact K _ w.right
def AP3 {n:Nd}{nb sb:Nat}{s:XS}{v0:Vz}(ok:s.OK)(w:AN (pts nb (.cells n.cells 197 (0,0))+(s.res sb+x)) h)(g:s.il≠[])(f:s.bl=[])(u:n.xblk=0)(d:needs s.il<=96)
  (e:∀ a∈s.il,RdX x a.v a.bs/\a.nm.length<256/\a.ix<256/\a.bs.length<100000)
  (K:∀ xv xr h,BufV xv (NM s.il) xr->AN (pts nb (.cells (Nd.cells {n with ff:=xv}) 197 (0,0))+(xr+(s.res sb+x))) h->Q .nilIface h):ou v0 (Pt nb) (Pt sb) h Q:=by
 obtain⟨⟨ia,ic,hi⟩,_⟩:=ok.i.len;obtain⟨⟨v,q,j⟩,_⟩:=ok.b.len;rw[f] at j;have p:0<s.il.length:=K6.2 g;have o:=ok.il.2;unfold ou AW;refine BG w fun cb h w=>?_;simp (disch:=omega) only[go_sem,AC w,hi,Value.cells,H0];refine Ei (n:=104) w (by omega) fun mb h w=>?_;refine AD w (Nd.cells {n with ff:=.slice (some ⟨mb,0,none⟩) 104 104}) rfl rfl (by simp) rfl fun h w=>?_;simp (disch:=omega) only[go_sem,AC w];refine Nf (AN7 (m:=3925999616) w (by omega) (by simp) fun h w=>?_);simp (disch:=omega) only[go_sem,AC w,hi];have t:(setL (List.replicate 104 (0:UInt8)) 0 (Ag 3925999616)).length=104:=by rw[Ad (by decide)];simp
 refine fu (AP8 (rX:=s.ir) (l:=s.il) (delta:=0) (n:=100) (bb:=mb) (all0:=setL (List.replicate 104 0) 0 (Ag 3925999616)) (T:=5)
  (x:=pts nb (.cells (Nd.cells {n with ff:=.slice (some ⟨mb,0,none⟩) 104 104}) 197 (0,0))+(pts cb (.cells (Pt sb).cells 287 (0,0))+(pts sb (.cells ⟨[s.iv,s.bv,AB s.ef,AB s.bw]⟩ 284 (0,0))+(s.br+x)))) (hi▸ok.i) (w.cast (by unfold XS.res;ac_rfl))
  (fun a i=>⟨(e a i).1.bf.bf.bf.bf,(e a i).2⟩) (by rw[t];omega) (I0 _) (by omega) (by omega) (by omega) fun h w=>?_)
 unfold Xk AW;simp (disch:=omega) only[go_sem,AC w,j,Value.cells,C4,J0,u];unfold Xj AW;simp only[go_sem];have c:=Ub d;refine K (.slice (some ⟨mb,0,none⟩) 104 104) _ h (.own' (b:=mb) (all:=NM s.il) (by rw[c];omega) c (by rw[<-c,L1])) (AN.right (x:=pts cb (.cells (Pt sb).cells 287 (0,0))) (w.cast ?_));unfold XS.res NM;ac_rfl
def AG {b o:Nat}:Aw o (Pt b) k=k (.pointer (some ⟨b,o,none⟩)):=by simp only[go_sem]
def Af {b o:Nat}{cs:Array Vz}{T:Tj}{fz:Nat×Nat}{u:Vz}(w:AN x h)[Be b x (.cells cs T fz)](a:cs[o]? = some u)(K:k u):Ae false 1 (.pointer (some ⟨b,o,none⟩)) h k:=by
 rw[AC w,a];exact K
def Is {B:Prop} {b o:Nat}{cs:Array Vz}{T:Tj}{fz:Nat×Nat}{u:Vz}(w:AN x h)[Be b x (.cells cs T fz)](a:cs[o]? = some u)(K:B):Ae false 1 (.pointer (some ⟨b,o,none⟩)) h (fun v=>v=u)/\B:=⟨Af w a rfl,K⟩
def BD {b n:Nat}{l:List Vz}{T:Tj}{fz:Nat×Nat}(w:AN x h)[Be b x (.cells ⟨l⟩ T fz)](a:l.length=n)(K:k (.agg ⟨l⟩)):Ae true n (Pt b) h k:=by
 rw[BC (o:=0) (w.find (b:=b)) (by simp;omega)];have:(⟨l⟩:Array Vz).extract 0 (0+n)=⟨l⟩:=by
  apply P4;simp[I3,<-a]
 rw[this];exact K
def AU {c:Array Vz}{l:List Vz}(h:l.length=c.size):Av c 0 l=⟨l⟩:=by
 apply N6;intro i;rw[Er _ _ _ _ (by omega)];have e:(⟨l⟩:Array Vz)[i]? = l[i]?:=by simp
 rw[e];by_cases hi:i<l.length
 ·rw[D0 (by omega),C8]
 ·rw[F0 (by omega),D3 (by omega),Array.getElem?_eq_none (by omega)]
def Di {T:Tj}{z:Option Vz}{zv:Vz}{kl f:Iq}{a n m:Nat}(w:AN x h)(j:z=some zv)(i:zv.cells=#[zv])(o:n<=m)(c:m*a<=140737488355328)(l:m<=140737488355328)
  (K:∀ b h,AN (pts b (.cells ⟨List.replicate m zv⟩ T (0,0))+x) h->kt (.slice (some ⟨b,0,none⟩) n m) h):Aa z 1 a T (.int kl (n:Int)) (.int f (m:Int)) h kt:=
 ⟨kl,f,n,m,zv,rfl,rfl,j,by omega,by omega,by rw[<-Int.natCast_mul];omega,by omega,fun b g e c d=>by
  rw[M5,J5,Cv i] at d;simpa using K b g (w.new e c d)⟩
def callV {n:Nat}{fst cap:Array Vz}{args l:List Vz}(b:fst.toList++args++cap.toList=l)(a:Ii TP n=true)(K:Call TP n l h kt):OH TP (.func (.func n) fst cap) args h kt:=
 ⟨⟨n,fst,cap,rfl,a⟩,n,fst,cap,rfl,by rw[b];exact K⟩
def Nk {a b:Bs}:AQ .lss (str a) (str b) k=k (.bool (Op.bytesLess a b)):=by
 refine IN ?_;simp only[DO,ByteArray.toList_eq]
def DV {T:Tj}{v u:Vz}{n i:Nat}{kk:Iq}{vs:List Vz}{f:H->Prop}(d:Vec T 1 v n vs r)(w:AN (r+x) h)(hi:i<n)(e:u.cells=#[u])(j:Value.oneCell' u=true)
  (K:∀ r h,Vec T 1 v n (vs.set i u) r->AN (r+x) h->f h):Ap (.slice 1) v (.int kk (i:Int)) fun a=>BV 1 a u h f:=by
 cases d with
 | nil=>omega
 | own g l=>
  rename_i b c all;rw[Dq hi,U1];refine AD w ⟨all.set i u⟩ ?_ (by rw[e];rfl) (by simp;omega) (by rw[e];simp[j]) fun h w=>?_
  ·rw[e,AY];rfl
  ·refine K _ h (Vec.own' (n:=n) g (by simp;omega) ?_) w;rw[List.take_set]
def Hb {T:Tj}{z:Option Vz}{zv e:Vz}{kt:Kt}(w:AN x h)(j:z=some zv)(d:zv.cells=#[zv])(i:e.cells=#[e])(f:Value.oneCell' e=true)(K:∀ b h,AN (pts b (.cells ⟨[e]⟩ T (0,0))+x) h->kt (.slice (some ⟨b,0,none⟩) 1 1) h) :
  AK (.arr 1) T z 1 1 [(0,e)] h kt:=by
 unfold AK;refine⟨zv,⟨[e]⟩,j,by omega,?_,fun b g ex a c=>K b g (w.new ex a c)⟩;rw[F0 (by omega),Cv d];refine EE _ _ _ ?_;unfold Du;simp[DB,i,Du,IW]
def GW {b o n:Nat}{c:Array Vz}{T:Tj}{fz:Nat×Nat}{v:Vz}(w:AN x h)[f:Be b x (.cells c T fz)](a:o+n<=c.size)(d:.agg (c.extract o (o+n))=v):Ae true n (.pointer (some ⟨b,o,none⟩)) h fun u=>u=v:=by
 rw[BC (w.find (b:=b)) a];exact d
def Nj {b o n:Nat}{c e:Array Vz}{T:Tj}{fz:Nat×Nat}(w:AN x h)[Be b x (.cells c T fz)](d:o+n<=c.size)(a:c.extract o (o+n)=e)(K:k (.agg e)):Ae true n (.pointer (some ⟨b,o,none⟩)) h k:=by
 rw[BC (o:=o) (w.find (b:=b)) d,a];exact K
def MT:Bs->Nat
 | []=>0
 | c::l=>c.toNat+256*MT l
def leL (b:Bs)(at' n:Nat):Nat:=MT ((b.drop at').take n)
theorem Ym:∀ l:Bs,MT l<256^l.length
 | []=>by simp[MT]
 | c::l=>by
  have:=Ym l;have:=c.toNat_lt;simp only[MT,J1,Nat.pow_succ];omega
def Ar {b:Bs}{p n:Nat}:leL b p n<256^n:=by
 refine O6 (Ym _) (W8 (by omega) ?_);simp;omega
def RdX.get {v:Vz}{bs:Bs}{i:Nat}{kk:Iq}{c:UInt8}(d:RdX x v bs)(w:AN x h)(j:bs[i]? = some c)(K:k (bc c)):Ap (.slice 1) v (.int kk (i:Int)) fun a=>Ae false 1 a h k:=by
 have hi:i<bs.length:=by
  rcases P5 i bs.length with f|f
  ·exact f
  ·rw[D3 f] at j;cases j
 rcases d with⟨q,m,f,g⟩|⟨b,o,m,all,T,fz,y,f,g,s,n,t⟩
 ·subst g;simp at hi
 ·subst f g;rw[Dq hi];have p:(⟨all⟩:Array Vz)[o+i]? = some (bc c):=by
   have e:=J3 (fun l:List Vz=>l[i]?) n;simp only[Y0,j,N5] at e;rw[I2,D0 hi,Q3] at e;simpa using e
  rw[AC w,p];exact K
def RdX.slice {v:Vz}{bs:Bs}{i j:Nat}{lo hi:Option Vz}(d:RdX x v bs)(f:Bb 0 lo=some i)(e:Bb bs.length hi=some j)(q:i<=j)(s:j<=bs.length)(K:∀ m,RdX x m ((bs.take j).drop i)->k m):Cf (.slice 1) v lo hi k:=by
 rcases d with⟨l,a,e1,e2⟩|⟨b,o,a,all,T,fz,y,e1,e2,t,n,u⟩
 ·subst e1 e2;simp only[C4] at e s;obtain rfl:j=0:=by omega
  obtain rfl:i=0:=by omega
  refine⟨.slice (if a=0 then l else l.map (·.add 0)) 0 a,?_,K _ (.inl ⟨_,a,rfl,by simp⟩)⟩;simp only[Bi,f,e];rw[D0 ⟨I0 _,Q2 _⟩];simp
 ·subst e1;have g:((bs.take j).drop i).length=j-i:=by simp;omega
  refine⟨.slice (some ⟨b,if a=i then o else o+i,none⟩) (j-i) (a-i),?_,K _ (.inr ⟨b,if a=i then o else o+i,a-i,all,T,fz,y,by rw[g],e2,?_,?_,by rw[g];omega⟩)⟩
  ·simp only[Bi,f,e];rw[D0 ⟨q,by omega⟩];by_cases c:a=i
   ·rw[D0 c,D0 c]
   ·rw[F0 c,F0 c,M5,N5,Cb]
  ·rw[g];by_cases c:a=i
   ·rw[D0 c];omega
   ·rw[F0 c];omega
  ·rw[g];by_cases c:a=i
   ·have e0:j-i=0:=by omega
    have p:((bs.take j).drop i)=[]:=X4.1 (by omega);rw[e0,p,K7];rfl
   ·rw[F0 c,X8,J7,<-n,T6,V2 (by omega),<-H5,V3]
def Bk {kk:Iq}{n:Nat}{d:Nat}:Bb d (some (.int kk (n:Int)))=some n:=by simp[Bb]
def GM {kk:Iq}{n:Nat}{d:Nat}:Bb d (some (.int kk (no_index (OfNat.ofNat n:Int))))=some (OfNat.ofNat n):=Bk (n:=n)
def AD2 {a c:Nat}(d:c<256):a*256 ||| c=c+256*a:=by
 have:=Nat.shiftLeft_add_eq_or_of_lt (i:=8) (b:=c) (show c<2^8 from d) a;rw[<-Nat.shiftLeft_eq a 8] at *;omega
def NF {v:Vz}{bs:Bs}{p n:Nat}(d:RdX x v bs)(w:AN x h)(hn:n<=7)(hp:p<4611686018427387904)(hb:bs.length<4611686018427387904)(K:Q (AH (leL bs p n:Nat)) h):f66 v (AH (p:Nat)) (AH (n:Nat)) h Q:=by
 obtain⟨a,c,t⟩:=d.len;unfold f66 AJZ AW;refine DF (fun m u v8 j=>j=h/\m<=n/\u=AH (MT ((bs.drop (p+m)).take (n-m)):Nat)/\v8=AH (m:Nat)) n ⟨rfl,I0 _,by simp[MT],rfl⟩ ?_;rintro rec m u v8 j ⟨rfl,hm,rfl,rfl⟩ g;have s:MT ((bs.drop (p+m)).take (n-m))<256^(n-m):=by
  refine O6 (Ym _) (W8 (by omega) ?_);simp;omega
 unfold ACD BL;simp only[go_sem];refine AS (fun hc=>?_) (fun hc=>?_)
 ·have ae:0<m:=by omega
  have f:256^(n-m)<=256^6:=W8 (by omega) (by omega);have h6:(256^6:Nat)=281474976710656:=by decide
  have e1:MT ((bs.drop (p+m)).take (n-m))*256%18446744073709551616=MT ((bs.drop (p+m)).take (n-m))*256:=C2 (by omega);have e2:decide (((p+m-1:Nat):Int)>=(p:Int))=true:=H0 (by omega);have e4:(p+m)%18446744073709551616=p+m:=C2 (by omega);clear s f h6;simp (disch:=omega) only[go_sem,e1,e4,e2];rw[t];simp (disch:=omega) only[go_sem];rw[<-t];have b:∀ l:Vz,l=AH (MT ((bs.drop (p+(m-1))).take (n-(m-1))):Nat)->rec l (AH (m-1:Nat)) j:=by
   intro l e8;exact g (m-1) _ _ _ ⟨rfl,by omega,e8,rfl⟩ (by omega)
  unfold AJY AW;refine AS (fun q=>?_) (fun q=>?_)
  ·have e:p+m-1<bs.length:=by omega
   have hg:=B0 e;refine d.get w hg ?_;have o:bs[p+m-1].toNat<256:=bs[p+m-1].toNat_lt;unfold bc;simp (disch:=omega) only[go_sem];refine b _ ?_;have i:bs.drop (p+(m-1))=bs[p+m-1]::bs.drop (p+m):=by
    have:=N3 e;rw[show p+(m-1)=p+m-1 by omega,this,show p+m-1+1=p+m by omega]
   rw[i,show n-(m-1)=n-m+1 by omega,D8,MT,AD2 o]
  ·simp (disch:=omega) only[go_sem];refine b _ ?_;have i:bs.drop (p+(m-1))=[]:=C5 (by omega);have e10:bs.drop (p+m)=[]:=C5 (by omega);rw[i,e10];simp[MT]
 ·obtain rfl:m=0:=by omega
  rw[Z4,C8];exact K
def EW {a b c:Vz}(K:Q (.tuple #[]) h):f65 a  AI  b c h Q:=by
 unfold f65 AW;simp only[go_sem];exact K
section
def RX {kk:Iq}{a b:Nat}(e:kk.signed=false)(c:a<2^kk.bits)(d:b<2^kk.bits):AQ .and (.int kk (a:Int)) (.int kk (b:Int)) k=k (.int kk ((a &&& b:Nat):Int)):=RW c d e
@[go_sem] def WG {a b:Nat}(c:a<18446744073709551616)(d:(OfNat.ofNat b:Int)<18446744073709551616):AQ .and (AH (a:Int)) (AH (no_index (OfNat.ofNat b:Int))) k=k (AH ((a &&& b:Nat):Int)):=RX rfl c (S7.1 d)
structure VS where
 vb:Nat
 ob:Nat
 iv:Vz
 img:Vz
 I:Bs
 nb:Nat
 eh:Nat
 ow:Bs
def VS.cells (v:VS):Array Vz:=⟨[v.iv,AH (v.nb:Nat),.slice none 0 0,v.img,AH 1,AH 32768,AH (v.eh:Nat),AH 256,AH 32,.slice (some ⟨v.ob,0,none⟩) v.nb v.nb,.bool false]⟩
abbrev VS.res (v:VS):Res:=pts v.vb (.cells v.cells 51 (0,0))+buf v.ob v.ow
structure VS.OK (v:VS) (x:Res):Prop where
 rd:RdX x v.img v.I
 len:v.nb*4096<=v.I.length
 big:v.I.length<1099511627776
 nb:v.nb<=32768
 nb1:2<=v.nb
 ow:v.ow.length=v.nb
 eh:v.eh<=32768
 ipg1:16<=v.eh
 ipg16:v.eh%16=0
def VS.clm (v:VS)(n:Nat):VS:={v with ow:=setL v.ow n [1]}
def VS.OK.clm {v:VS}(ok:v.OK x){n:Nat}(a:n<v.nb):(v.clm n).OK x:=⟨ok.rd,ok.len,ok.big,ok.nb,ok.nb1,by show (setL v.ow n [1]).length=_;rw[Ad (by have:=ok.ow;simp;omega)];exact ok.ow,ok.eh,ok.ipg1,ok.ipg16⟩
def VS.OK.mono {v:VS}(ok:v.OK x):v.OK (y+x):=⟨ok.rd.bf,ok.len,ok.big,ok.nb,ok.nb1,ok.ow,ok.eh,ok.ipg1,ok.ipg16⟩
@[go_sem] theorem VS.g0 {v:VS}:v.cells[0]? = some v.iv:=rfl
@[go_sem] theorem VS.g1 {v:VS}:v.cells[1]? = some (AH (v.nb:Nat)):=rfl
@[go_sem] theorem VS.g2 {v:VS}:v.cells[2]? = some  cst__slice_none_0_0:=rfl
@[go_sem] theorem VS.g3 {v:VS}:v.cells[3]? = some v.img:=rfl
@[go_sem] theorem VS.g4 {v:VS}:v.cells[4]? = some  Aq :=rfl
@[go_sem] theorem VS.g5 {v:VS}:v.cells[5]? = some  Bm:=rfl
@[go_sem] theorem VS.g6 {v:VS}:v.cells[6]? = some (AH (v.eh:Nat)):=rfl
@[go_sem] theorem VS.g7 {v:VS}:v.cells[7]? = some (AH 256):=rfl
@[go_sem] theorem VS.g8 {v:VS}:v.cells[8]? = some  Bw :=rfl
@[go_sem] theorem VS.g9 {v:VS}:v.cells[9]? = some (.slice (some ⟨v.ob,0,none⟩) v.nb v.nb):=rfl
@[go_sem] theorem VS.g10 {v:VS}:v.cells[10]? = some  AE :=rfl
theorem VS.clm_res {v:VS}{n:Nat}:(v.clm n).res=pts v.vb (.cells v.cells 51 (0,0))+buf v.ob (setL v.ow n [1]):=rfl
attribute [local irreducible] VS.cells
section
variable {v:VS}
def pz {n:Nat}{s:Bs}(ok:v.OK x)(b:v.ow[n]? = some 0)(w:AN (v.res+x) h)(g:s.length<100)(K:∀ h,(v.clm n).OK x->AN ((v.clm n).res+x) h->Q (.tuple #[]) h):ALZ (Pt v.vb) (AH (n:Nat)) (str s) h Q:=by
 have a:n<v.nb:=by
  rcases P5 n v.ow.length with d|d
  ·have:=ok.ow;omega
  ·rw[D3 d] at b;cases b
 have f:=ok.nb;have e1:decide ((n:Int)>=(v.nb:Int))=false:=J0 (by omega);unfold ALZ AW;simp (disch:=omega) only[go_sem,AC w];rw[e1];simp only[go_sem];simp (disch:=omega) only[go_sem,AC w,Dq,U1];simp only[Ji,b,N5,go_sem];have e2:(AQ .eql (bc 0)  BE )=fun k=>k  AI :=funext fun k=>by unfold bc;rw[AT];rfl
 rw[e2];rw[show (.string ⟨#[98,108,111,99,107,32,117,115,101,100,32,116,119,105,99,101,32,98,121,32]⟩:Vz)=str [98,108,111,99,107,32,117,115,101,100,32,116,119,105,99,101,32,98,121,32] from rfl];simp (disch:=(simp only[J1,C4];omega)) only[go_sem];refine BH (EW ?_);simp (disch:=omega) only[go_sem,AC w,Dq,U1];have e:AN (buf v.ob v.ow+(pts v.vb (.cells v.cells 51 (0,0))+x)) h:=w.cast (by unfold VS.res;ac_rfl);refine Dc (c:=1) e (by have:=ok.ow;omega) fun h w=>K h (ok.clm a) (w.cast ?_);rw[VS.clm_res];ac_rfl
def blkL (I:Bs)(n:Nat):Bs:=(I.drop (n*4096)).take 4096
def ANx {n:Nat}(ok:v.OK x)(b:n<v.nb)(w:AN (v.res+(y+x)) h)(K:∀ bv,RdX x bv (blkL v.I n)->Q bv h):ALg (Pt v.vb) (AH (n:Nat)) h Q:=by
 have c:=ok.nb;have a:=ok.len;have e:=ok.big;obtain⟨f,ic,hi⟩:=ok.rd.len;have e1:decide ((n:Int)>=(v.nb:Int))=false:=J0 (by omega);have k1:n*4096<=(n+1)*4096:=H3 _ (Nat.le_succ n);have k2:(n+1)*4096<=v.I.length:=C6 (H3 _ b) a;have e2:decide ((((n+1)*4096:Nat):Int)>(v.I.length:Int))=false:=J0 (by omega);unfold ALg AW;simp (disch:=omega) only[go_sem,AC w];rw[e1];simp (disch:=omega) only[go_sem,AC w];rw[hi];simp (disch:=omega) only[go_sem];rw[e2];unfold ya AW;simp (disch:=omega) only[go_sem,AC w];refine ok.rd.slice (i:=n*4096) (j:=(n+1)*4096) Bk Bk k1 k2 fun bv d=>K bv ?_;rw[V3,show (n+1)*4096-n*4096=4096 by omega] at d;exact d
def dscL (I:Bs):Bs:=(I.drop 4096).take 32
def ASg (ok:v.OK x)(w:AN (v.res+(y+x)) h)(K:∀ bv,RdX x bv (dscL v.I)->Q bv h):AMQ (Pt v.vb) (AH ((0:Nat):Int)) h Q:=by
 have c:=ok.len;have b:=ok.big;have a:=ok.nb1;obtain⟨e,ic,hi⟩:=ok.rd.len;have f2:(AQ .add (AH 4096) (AH ((0*32:Nat):Int)))=fun k=>k (AH ((4096:Nat):Int)):=funext fun k=>by rw[BT];rfl
 have f3:(AQ .add (AH ((4096:Nat):Int)) Bw )=fun k=>k (AH ((4128:Nat):Int)):=funext fun k=>by rw[BT];rfl
 have e2:decide (((4128:Nat):Int)>(v.I.length:Int))=false:=J0 (by omega);unfold AMQ AW;simp (disch:=omega) only[go_sem,AC w];simp only[f2,f3];rw[hi];simp (disch:=omega) only[go_sem,AC w];rw[e2,<-hi];simp only[go_sem];refine ok.rd.slice (i:=4096) (j:=4128) Bk Bk (by omega) (by omega) fun bv d=>K bv ?_;rw[V3] at d;exact d
def p4 {lo n:Nat}{c:Vz}(ok:v.OK x)(w:AN (v.res+x) h)(b:n<=7)(a:lo<1000)(K:Q (AH (leL (dscL v.I) lo n:Nat)) h):ALi (Pt v.vb) (AH ((0:Nat):Int)) (AH (lo:Nat)) (AH (n:Nat)) c h Q:=by
 unfold ALi AW;refine AGG (ASg (y:=0) ok (w.cast (by rw[Res.zero_add])) fun bv d=>?_);refine Cd (NF d.bf w b (by omega) (by simp[dscL];omega) ?_);simp (disch:=omega) only[go_sem,AC w];unfold yd AW;rw[AJ];exact K
def APo (ok:v.OK x)(w:AN (v.res+x) h)(K:Q (AH (leL (dscL v.I) 0 4:Nat)) h):ALa (Pt v.vb) (AH ((0:Nat):Int)) h Q:=by
 unfold ALa AW;exact Jn (p4 (lo:=0) (n:=4) ok w (by omega) (by omega) K)
def APp (ok:v.OK x)(w:AN (v.res+x) h)(K:Q (AH (leL (dscL v.I) 4 4:Nat)) h):ALb (Pt v.vb) (AH ((0:Nat):Int)) h Q:=by
 unfold ALb AW;exact Jn (p4 (lo:=4) (n:=4) ok w (by omega) (by omega) K)
def APq (ok:v.OK x)(w:AN (v.res+x) h)(K:Q (AH (leL (dscL v.I) 8 4:Nat)) h):ALc (Pt v.vb) (AH ((0:Nat):Int)) h Q:=by
 unfold ALc AW;exact Jn (p4 (lo:=8) (n:=4) ok w (by omega) (by omega) K)
end
variable {v:VS}
inductive Clm:List Nat->Bs->Bs->Prop
 | nil {o:Bs}:Clm [] o o
 | cons {n:Nat} {l:List Nat} {o o':Bs}:o[n]? = some 0->Clm l (setL o n [1]) o'->Clm (n::l) o o'
theorem Clm.append:∀ {l m:List Nat} {o o':Bs},Clm (l++m) o o'->∃ a,Clm l o a/\Clm m a o'
 | [],_,_,_,c=>⟨_,.nil,c⟩
 | _::_,_,_,_,.cons h1 h2=>by
  obtain⟨a,b,d⟩:=h2.append;exact⟨a,.cons h1 b,d⟩
def VS.own (v:VS)(o:Bs):VS:={v with ow:=o}
theorem Clm.len:∀ {l:List Nat} {o o':Bs},Clm l o o'->o'.length=o.length
 | _,_,_,.nil=>rfl
 | _,_,_,.cons (n:=n) (o:=o) h1 h2=>by
  rw[h2.len];refine Ad ?_;rcases P5 n o.length with h|h
  ·simp;omega
  ·rw[D3 h] at h1;cases h1
def VS.OK.own {o:Bs}(ok:v.OK x)(a:o.length=v.ow.length):(v.own o).OK x:=⟨ok.rd,ok.len,ok.big,ok.nb,ok.nb1,a.trans ok.ow,ok.eh,ok.ipg1,ok.ipg16⟩
def ATJ:Bs:=[98,108,111,99,107,32,98,105,116,109,97,112]
def grpL (I:Bs)(eh:Nat):List Nat:=[0,1]++([leL (dscL I) 0 4,leL (dscL I) 4 4]++(List.range (eh/16)).map (leL (dscL I) 8 4 + ·))
def ASD {v:Vz}(K:Q  AI  h):ALW v (AH ((0:Nat):Int)) h Q:=by
 unfold ALW AW;have f1:(AQ .eql (AH ((0:Nat):Int))  AO)=fun k=>k  AI :=funext fun k=>by rw[AT];rfl
 simp only[f1,go_sem];exact K
def AQj {rec1:Vz->H->Prop}{x1 x4 x5:Vz}{o':Bs}:∀ (m j:Nat) (v:VS) (h:H),j+m=v.eh/16->v.OK x->Clm ((List.range m).map (leL (dscL v.I) 8 4+j + ·)) v.ow o'->AN (v.res+x) h->(∀ h,AN ((v.own o').res+x) h->rec1 (AH ((1:Nat):Int)) h)->
  ACH Q rec1 (Pt v.vb) x1 x4 x5 (AH (v.eh/16:Nat)) (AH ((0:Nat):Int)) (AH (j:Nat)) h:=by
 intro m j v h hj ok c w K;unfold ACH;refine Bj (fun m u e=>∃ j ow,m+j=v.eh/16/\u=AH (j:Nat)/\ow.length=v.ow.length/\Clm ((List.range m).map (leL (dscL v.I) 8 4+j + ·)) ow o'/\AN ((v.own ow).res+x) e) m ⟨j,v.ow,by omega,rfl,rfl,c,w⟩ ?_;rintro rec m u e ⟨j,ow,q,rfl,p,c,w⟩ b;have hi:=ok.eh;have d:(v.own ow).OK x:=ok.own p;have t:leL (dscL v.I) 8 4<4294967296:=Ar;unfold ACE BL;simp (disch:=omega) only[go_sem];refine AS (fun o=>?_) (fun o=>?_)
 ·have f:m=(m-1)+1:=by omega
  rw[f,List.range_succ_eq_map,Q1,D5] at c;cases c with
  | cons i l=>
   refine Zl (APq (v:=v.own ow) d w ?_);rw[show (v.own ow).I=v.I from rfl];simp (disch:=omega) only[go_sem];refine Jm (pz (v:=v.own ow) (n:=leL (dscL v.I) 8 4+j) (s:=[105,110,111,100,101,32,116,97,98,108,101]) d i w (by decide) fun h g w=>?_);refine b (m-1) _ _ ⟨j+1,setL ow (leL (dscL v.I) 8 4+j) [1],by omega,rfl,?_,?_,w⟩ (by omega)
   ·exact (g.ow.trans ok.ow.symm)
   ·refine Eq.mp ?_ l;congr 1;refine Q4 fun a _=>?_;simp only[Function.comp];omega
 ·have f:m=0:=by omega
  subst f;cases c;exact K e w
def AQi {x1 x4 x5:Vz}{o':Bs}{rec1:Vz->H->Prop}(ok:v.OK x)(c:Clm ([leL (dscL v.I) 0 4,leL (dscL v.I) 4 4]++(List.range (v.eh/16)).map (leL (dscL v.I) 8 4 + ·)) v.ow o')(w:AN (v.res+x) h)(K:∀ h,AN ((v.own o').res+x) h->rec1 (AH ((1:Nat):Int)) h) :
  ACG Q rec1 (Pt v.vb) x1 x4 x5 (AH (v.eh/16:Nat)) (AH ((0:Nat):Int)) h:=by
 cases c with
 | cons d c=>
  cases c with
  | cons e c=>
   unfold ACG AW;refine Zj (APo ok w ?_);refine Jm (pz (n:=leL (dscL v.I) 0 4) (s:=ATJ) ok d w (by decide) fun h a w=>?_);refine Zk (APp (v:=v.clm _) a w ?_);refine Jm (pz (v:=v.clm _) (n:=leL (dscL v.I) 4 4) (s:=[105,110,111,100,101,32,98,105,116,109,97,112]) a e w (by decide) fun h b w=>?_);exact AQj (v.eh/16) 0 ((v.clm _).clm _) h (by show 0+v.eh/16=v.eh/16;omega) b (by show Clm (List.map (leL (dscL v.I) 8 4+0 + ·) _) _ _;exact c) w fun h w=>K h w
def s67 {sv:Vz}{sb o':Bs}(ok:v.OK x)(d:RdX x sv sb)(ah:sb.length=1024)(hc:leL sb 92 4=520)(c:Clm (grpL v.I v.eh) v.ow o')(w:AN (v.res+x) h)(K:∀ h,(v.own o').OK x->AN ((v.own o').res+x) h->Q (.tuple #[]) h):f67 (Pt v.vb) sv h Q:=by
 have hi:=ok.eh;have ae:=ok.ipg16;have e:=c.len;unfold f67 AW;have f1:(AQ .mul Aq   Bw)=fun k=>k (AH ((32:Nat):Int)):=funext fun k=>by rw[CZ];rfl
 have f2:(AQ .add (AH ((32:Nat):Int)) (AH 4096))=fun k=>k (AH ((4128:Nat):Int)):=funext fun k=>by rw[BT];rfl
 have f3:(AQ .sub (AH ((4128:Nat):Int)) Aq)=fun k=>k (AH ((4127:Nat):Int)):=funext fun k=>by rw[Ci];rfl
 have f4:(AQ .quo (AH ((4127:Nat):Int)) (AH 4096))=fun k=>k (AH ((1:Nat):Int)):=funext fun k=>by rw[NU (by decide)];rfl
 simp (disch:=omega) only[go_sem,AC w,f1];rw[show ((32+4096-1)/4096:Nat)=1 from rfl];refine Cd (NF (p:=92) (n:=4) d.bf w (by omega) (by omega) (by omega) ?_);rw[hc];have q:(AQ .and (AH ((520:Nat):Int)) (AH 16))=fun k=>k (AH ((0:Nat):Int)):=funext fun k=>by
  rw[WG (by decide) (by decide)];rfl
 have f6:(AQ .neq (AH ((0:Nat):Int))  AO)=fun k=>k  AE:=funext fun k=>by rw[Ay];rfl
 simp only[q,f6,go_sem];unfold AJf AW;have o:((v.eh*256+4096-1)/4096)=v.eh/16:=by omega
 simp (disch:=omega) only[go_sem,AC w,o];obtain⟨o1,c1,c2⟩:=Clm.append c;unfold AJg;refine Bj (fun m u a=>(m=1/\u=AH 0/\a=h)\/(m=0/\u=AH ((1:Nat):Int)/\AN ((v.own o').res+x) a)) 1 (.inl ⟨rfl,rfl,rfl⟩) ?_;rintro rec m u a hh f;rcases hh with⟨rfl,rfl,rfl⟩|⟨rfl,rfl,w⟩
 ·unfold gp BL;have g1:(AQ .lss  AO   Aq)=fun k=>k AI :=funext fun k=>by rw[AR];rfl
  have g2:(AQ .mul  AO   Bm)=fun k=>k (AH ((0:Nat):Int)):=funext fun k=>by rw[CZ];rfl
  simp (disch:=omega) only[go_sem,AC w];simp only[g1,g2,Ab];refine AFl (ASD ?_);rw[Ab];unfold AJh;refine Bj (fun m u a=>(m=2/\u=AH 0/\AN (v.res+x) a)\/(m=1/\u=AH ((1:Nat):Int)/\AN ((v.clm 0).res+x) a)\/(m=0/\u=AH ((2:Nat):Int)/\AN ((v.own o1).res+x) a)) 2 (.inl ⟨rfl,rfl,w⟩) ?_;rintro rec3 m u a hh b;have q1:(AQ .add  Aq  (AH ((1:Nat):Int)))=fun k=>k (AH ((2:Nat):Int)):=funext fun k=>by rw[BT];rfl
  have q2:(AQ .add (AH ((2:Nat):Int)) AO)=fun k=>k (AH ((2:Nat):Int)):=funext fun k=>by rw[BT];rfl
  unfold ACF BL;simp only[q1,q2];cases c1 with
  | cons t c1=>
   cases c1 with
   | cons h2 c1=>
    cases c1;rcases hh with⟨rfl,rfl,w⟩|⟨rfl,rfl,w⟩|⟨rfl,rfl,w⟩
    ·have g1:(AQ .lss AO (AH ((2:Nat):Int)))=fun k=>k  AI :=funext fun k=>by rw[AR];rfl
     have g2:(AQ .add (AH ((0:Nat):Int))  AO )=fun k=>k (AH ((0:Nat):Int)):=funext fun k=>by rw[BT];rfl
     have g3:(AQ .add AO Aq )=fun k=>k (AH ((1:Nat):Int)):=funext fun k=>by rw[BT];rfl
     simp only[g1,g2,g3,Ab];exact Jm (pz (n:=0) (s:=[115,117,112,101,114,98,108,111,99,107]) ok t w (by decide) fun h l w=>b 1 _ _ (.inr (.inl ⟨rfl,rfl,w⟩)) (by omega))
    ·have g1:(AQ .lss (AH ((1:Nat):Int)) (AH ((2:Nat):Int)))=fun k=>k  AI :=funext fun k=>by rw[AR];rfl
     have g2:(AQ .add (AH ((0:Nat):Int)) (AH ((1:Nat):Int)))=fun k=>k (AH ((1:Nat):Int)):=funext fun k=>by rw[BT];rfl
     have g3:(AQ .add (AH ((1:Nat):Int))  Aq )=fun k=>k (AH ((2:Nat):Int)):=funext fun k=>by rw[BT];rfl
     simp only[g1,g2,g3,Ab];have g:0<v.nb:=by have:=ok.nb1;omega
     exact Jm (pz (v:=v.clm 0) (n:=1) (s:=[115,117,112,101,114,98,108,111,99,107]) (ok.clm g) h2 w (by decide) fun h l w=>b 0 _ _ (.inr (.inr ⟨rfl,rfl,w⟩)) (by omega))
    ·have g1:(AQ .lss (AH ((2:Nat):Int)) (AH ((2:Nat):Int)))=fun k=>k (.bool false):=funext fun k=>by rw[AR];rfl
     simp only[g1,AJ];have i:(setL (setL v.ow 0 [1]) 1 [1]).length=v.ow.length:=by
      have:=ok.ow;have:=ok.nb1;rw[Ad (by rw[Ad (by simp;omega)];simp;omega),Ad (by simp;omega)]
     exact AQi (v:=v.own (setL (setL v.ow 0 [1]) 1 [1])) (ok.own i) c2 w fun h w=>f 0 _ _ (.inr ⟨rfl,rfl,w⟩) (by omega)
 ·unfold gp BL;have g1:(AQ .lss (AH ((1:Nat):Int)) Aq)=fun k=>k  AE :=funext fun k=>by rw[AR];rfl
  have w:AN ((v.own o').res+x) a:=w;have j:Ae false 1 (.pointer (some ⟨(v.own o').vb,4,none⟩)) a=qm (some  Aq ):=by
   funext k;rw[AC w,VS.g4]
  show BS (Pt (v.own o').vb) _;simp (disch:=omega) only[go_sem,j,g1];exact K a (ok.own e) w
def itL (I:Bs):Nat:=leL (dscL I) 8 4
def rawL (I:Bs)(n:Nat):Bs:=(I.drop (itL I*4096+(n-1)*256)).take 256
def AHO {n:Nat}(ok:v.OK x)(f:1<=n)(g:n<=v.eh)(hit:itL v.I*4096+v.eh*256<=v.I.length)(w:AN (v.res+(y+x)) h)(K:∀ bv,RdX x bv (rawL v.I n)->Q bv h):ALf (Pt v.vb) (AH (n:Nat)) h Q:=by
 have hi:=ok.eh;have l:=ok.big;obtain⟨m,ic,a⟩:=ok.rd.len;have e1:decide ((n:Int)<1)=false:=J0 (by omega);have e2:decide ((n:Int)>((1*v.eh:Nat):Int))=false:=J0 (by omega);have b:(n-1)/v.eh=0:=Nat.div_eq_of_lt (by omega);have c:(n-1)%v.eh=n-1:=C2 (by omega);have f1:(AQ .mul Aq  (AH (v.eh:Nat)))=fun k=>k (AH ((1*v.eh:Nat):Int)):=funext fun k=>by
  rw[CZ,<-Dn (show 1*v.eh<18446744073709551616 by omega)];rfl
 have k1:itL v.I*4096+(n-1)*256<=itL v.I*4096+(n-1)*256+256:=by omega
 have k2:itL v.I*4096+(n-1)*256+256<=v.I.length:=by omega
 have e:decide (((itL v.I*4096+(n-1)*256+256:Nat):Int)>(v.I.length:Int))=false:=J0 (by omega);unfold ALf AW;simp (disch:=omega) only[go_sem,AC w,f1];rw[e1];simp (disch:=omega) only[go_sem,AC w,f1];rw[e2];unfold xy AW;simp (disch:=omega) only[go_sem,AC w,b,c];refine Zl (APq ok.mono w ?_);rw[show leL (dscL v.I) 8 4=itL v.I from rfl];simp (disch:=omega) only[go_sem,AC w];refine⟨trivial,?_⟩;rw[a];simp (disch:=omega) only[go_sem];rw[e,<-a];simp only[go_sem];refine ok.rd.slice (i:=itL v.I*4096+(n-1)*256) (j:=itL v.I*4096+(n-1)*256+256) Bk Bk k1 k2 fun bv d=>K bv ?_;rw[V3,M4] at d;exact d
def kindL (m:Nat):Nat:=
 if m &&& 61440=32768 then 1 else if m &&& 61440=16384 then 2 else if m &&& 61440=8192 then 3 else if m &&& 61440=24576 then 4 else if m &&& 61440=4096 then 5 else if m &&& 61440=49152 then 6 else if m &&& 61440=40960 then 7 else 0
def qn {m:Nat}(f:m<65536)(K:Q (AH (kindL m:Nat)) h):f45 (cU16 (m:Nat)) h Q:=by
 unfold f45 AW;rw[Jh f (by decide)];unfold kindL at K;simp only[go_sem];have st:∀ (a c:Nat) (A B:Prop),(m &&& 61440=a->A)->(¬m &&& 61440=a->B)->BJ (.bool (decide (((m &&& 61440:Nat):Int)=((a:Nat):Int)))) A B:=fun a c A B b d=>AS (fun e=>b (by omega)) (fun e=>d (by omega));refine st 32768 0 _ _ (fun e=>?_) (fun e=>?_)
 ·rw[D0 e] at K;exact K
 rw[F0 e] at K;refine st 16384 0 _ _ (fun e=>?_) (fun e=>?_)
 ·rw[D0 e] at K;exact K
 rw[F0 e] at K;refine st 8192 0 _ _ (fun e=>?_) (fun e=>?_)
 ·rw[D0 e] at K;exact K
 rw[F0 e] at K;refine st 24576 0 _ _ (fun e=>?_) (fun e=>?_)
 ·rw[D0 e] at K;exact K
 rw[F0 e] at K;refine st 4096 0 _ _ (fun e=>?_) (fun e=>?_)
 ·rw[D0 e] at K;exact K
 rw[F0 e] at K;refine st 49152 0 _ _ (fun e=>?_) (fun e=>?_)
 ·rw[D0 e] at K;exact K
 rw[F0 e] at K;refine st 40960 0 _ _ (fun e=>?_) (fun e=>?_)
 ·rw[D0 e] at K;exact K
 rw[F0 e] at K;exact K
def Ny:Am TP 60=some (.agg ⟨[AB 0,AB 0]⟩):=by kernel_rfl
def NP (lo ex:Nat):List Int:=[(if lo<2147483648 then (lo:Int) else (lo:Int)-4294967296)+((ex%4*4294967296:Nat):Int),((ex/4:Nat):Int)]
def AEw {lo:Nat}(b:lo<4294967296):IntKind.i32.wrap (lo:Int)=if lo<2147483648 then (lo:Int) else (lo:Int)-4294967296:=by
 unfold IntKind.wrap;simp only[IntKind.signed,IntKind.bits];by_cases a:lo<2147483648
 ·simp[a];omega
 ·simp[a];omega
def RR {z:Int}(a : -9223372036854775808<=z)(b:z<9223372036854775808):IntKind.i64.wrap z=z:=by
 unfold IntKind.wrap;simp only[IntKind.signed,IntKind.bits];simp;omega
def Hs (lo ex:Nat):Vz:=.agg ⟨(NP lo ex).map (.int .i64 ·)⟩
def ASc {lo ex:Nat}(e:lo<4294967296)(g:ex<4294967296)(w:AN x h)(K:∀ y h,AN (y+x) h->Q (Hs lo ex) h):AML (AH (lo:Nat)) (AH (ex:Nat)) h Q:=by
 unfold AML AW;refine AV w Ny rfl fun b h w=>?_;have a : -2147483648<=(if lo<2147483648 then (lo:Int) else (lo:Int)-4294967296)/\(if lo<2147483648 then (lo:Int) else (lo:Int)-4294967296)<2147483648:=by
  by_cases f:lo<2147483648<;>simp[f]<;>omega
 have c:ex &&& 3=ex%4:=U8 ex 2;have f1:∀ z:Int,-2147483648<=z->z<2147483648->(AQ .add (AB z) (AB ((ex%4*4294967296:Nat):Int)))=fun k=>k (AB (z+((ex%4*4294967296:Nat):Int))):=fun z i j=>funext fun k=>by
  rw[BT,RR (by omega) (by omega)]
 have f2:(AQ .shl (AB ((ex%4:Nat):Int)) Bw )=fun k=>k (AB ((ex%4*4294967296:Nat):Int)):=funext fun k=>by
  refine (Ga (s:=32) (by decide)).trans ?_;rw[Bq (by omega)]
 have f3:(AQ .shr (AH (ex:Nat)) (AH 2))=fun k=>k (AH ((ex/4:Nat):Int)):=funext fun k=>GC (s:=2);have d:IntKind.i64.wrap (if lo<2147483648 then (lo:Int) else (lo:Int)-4294967296)=(if lo<2147483648 then (lo:Int) else (lo:Int)-4294967296):=RR (by omega) (by omega);simp (disch:=omega) only[go_sem,c,AEw e,d];simp only[f2,f1 _ a.1 a.2,f3];simp (disch:=omega) only[go_sem];refine BA Ny rfl (rs:=[AB ((if lo<2147483648 then (lo:Int) else (lo:Int)-4294967296)+((ex%4*4294967296:Nat):Int)),AB ((ex/4:Nat):Int)]) rfl ?_;refine AD w ⟨(NP lo ex).map (.int .i64 ·)⟩ rfl rfl (by simp) rfl fun h w=>?_;rw[BC w.left.one (by simp[NP])];exact K _ h w
def bitL (b:Bs)(i:Nat):Bool:=decide ((b.getD (i/8) 0).toNat/2^(i%8)%2=1)
def AOP {kk k':Iq}{a s:Nat}:AQ .shr (.int kk (a:Int)) (.int k' (s:Int)) k=k (.int kk ((a/2^(min s kk.bits):Nat):Int)):=GC (s:=s)
def APu {bv:Vz}{b:Bs}{i:Nat}(d:RdX x bv b)(w:AN x h)(hi:i/8<b.length)(g:i<1000000)(K:Q (.bool (bitL b i)) h):ALh bv (AH (i:Nat)) h Q:=by
 unfold ALh AW;simp (disch:=omega) only[go_sem];have a:=B0 hi;refine d.get w a ?_;have c:b[i/8].toNat<256:=b[i/8].toNat_lt;unfold bc;rw[AOP,show min (i%8) IntKind.u8.bits=i%8 from V2 (by show i%8<=8;omega)];have f:b[i/8].toNat/2^(i%8)<256:=U6 (A9 _ _) c;have f1:(AQ .and (.int .u8 ((b[i/8].toNat/2^(i%8):Nat):Int)) (.int .u8 1))=fun k=>k (.int .u8 ((b[i/8].toNat/2^(i%8)%2:Nat):Int)):=funext fun k=>by
  have:=RX (k:=k) (kk:=.u8) (b:=1) rfl f (by decide);rw[Nat.and_one_is_mod] at this;exact this
 rw[f1];simp only[go_sem];have e:bitL b i=decide (((b[i/8].toNat/2^(i%8)%2:Nat):Int)=1):=by
  unfold bitL;rw[W0,a,C9];exact decide_eq_decide.2 (by omega)
 rw[<-e];exact K
end
def orp {a b i:Nat}(h:a<2^i):a ||| b*2^i=a+b*2^i:=by
 rw[Nat.or_comm,<-Nat.shiftLeft_eq,<-Nat.shiftLeft_add_eq_or_of_lt h,O8]
def Je (a b c d:UInt8):Io a b c d=MT [a,b,c,d]:=by
 have f:=a.toNat_lt;have g:=b.toNat_lt;have j:=c.toNat_lt;have l:=d.toNat_lt;unfold Io;have e1:=orp (a:=a.toNat) (b:=b.toNat) (i:=8) (by omega);have e2:=orp (a:=a.toNat+b.toNat*2^8) (b:=c.toNat) (i:=16) (by omega);have e:=orp (a:=a.toNat+b.toNat*2^8+c.toNat*2^16) (b:=d.toNat) (i:=24) (by omega);simp only[Nat.reducePow] at e1 e2 e;rw[e1,e2,e];simp only[MT];omega
theorem Yb:∀ (l:Bs) (hh:Nat),l≠[]->ER hh l=ER (Pz hh (MT (l.take 4))) (l.drop 4)
 | [],_,h=>absurd rfl h
 | [a],hh,_=>by simp only[ER,D8,List.take_nil,R8,List.drop_nil,Je,MT];rfl
 | [a,b],hh,_=>by simp only[ER,D8,List.take_nil,R8,List.drop_nil,Je,MT];rfl
 | [a,b,c],hh,_=>by simp only[ER,D8,List.take_nil,R8,List.drop_nil,Je,MT];rfl
 | a::b::c::d::l,hh,_=>by simp only[ER,D8,K7,R8,I5,Je]
def AOD {v:Vz}{bs:Bs}{hh:Nat}(w:AN x h)(d:RdX x v bs)(hl:bs.length<1000000)(u:hh<4294967296)(K:Q (AM (ER hh bs:Nat)) h):YS Q v (AM (hh:Nat)) (AB ((0:Nat):Int)) h:=by
 unfold YS;refine DF (fun m s t q=>∃ i b,m=bs.length-i/\s=AM (b:Nat)/\t=AB (i:Nat)/\b<4294967296/\i<bs.length+4/\q=h/\ER b (bs.drop i)=ER hh bs) bs.length ⟨0,hh,rfl,rfl,rfl,u,by omega,rfl,rfl⟩ ?_;rintro rec m s t q ⟨i,b,rfl,rfl,rfl,p,ae,rfl,j⟩ f;obtain⟨a,c,g⟩:=d.len;unfold YQ BL;have hx:b*65536%4294967296 ^^^ b/65536<4294967296:=H7 (n:=32) (by omega) (by omega);have l:leL bs i 4<4294967296:=Ar;rw[g];simp (disch:=omega) only[go_sem];rw[<-g];refine AS (fun hc=>?_) (fun hc=>?_)
 ·refine Cd (NF (n:=4) d w (by omega) (by omega) (by omega) ?_);simp (disch:=omega) only[go_sem];refine f (bs.length-(i+4)) _ _ _ ⟨i+4,Pz b (leL bs i 4),rfl,rfl,rfl,Ju p l,by omega,rfl,?_⟩ (by omega);have o:bs.drop i≠[]:=by
   intro e;have:=J3 List.length e;simp at this;omega
  rw[<-j,Yb _ _ o,H5];rfl
 ·have:bs.drop i=[]:=C5 (by omega);rw[this,ER] at j;rw[j];exact K
def ASx {nv v:Vz}{nm bs:Bs}(w:AN x h)(dn:RdX x nv nm)(d:RdX x v bs)(o:bs.length<1000000)(q:nm.length<1000000)(K:Q (AM (hashX nm bs:Nat)) h):AMo nv v h Q:=by
 obtain⟨na,t,a⟩:=dn.len;unfold AMo ABU AW;rw[a,As,<-a];refine DF (fun m g j e=>∃ i,m=nm.length-i/\i<=nm.length/\g=AM ((nm.take i).foldl NO 0:Nat)/\j=AB (i:Nat)/\e=h) nm.length ⟨0,rfl,Q2 _,rfl,rfl,rfl⟩ ?_;rintro rec m g j e ⟨i,rfl,hi,rfl,rfl,rfl⟩ b;have c:=LR (nm.take i) 0 (by omega);unfold YR BL;simp (disch:=omega) only[go_sem];refine AS (fun l=>?_) (fun l=>?_)
 ·obtain⟨u,f⟩:∃ u,nm[i]? = some u:=⟨_,B0 (by omega)⟩;have p:=u.toNat_lt;have s:(nm.take i).foldl NO 0*32%4294967296 ^^^ (nm.take i).foldl NO 0/134217728<4294967296:=H7 (n:=32) (by omega) (by omega);refine dn.get w f ?_;simp (disch:=omega) only[go_sem,bc];refine b (nm.length-(i+1)) _ _ _ ⟨i+1,rfl,by omega,?_,rfl,rfl⟩ (by omega);rw[O3,f];simp[M6,NO]
 ·have:i=nm.length:=by omega
  subst this;rw[L1] at *;exact AOD w d o c K
def pfxL:Nat->Option Bs
 | 0=>some []
 | 1=>some [117,115,101,114,46]
 | 2=>some [115,121,115,116,101,109,46,112,111,115,105,120,95,97,99,108,95,97,99,99,101,115,115]
 | 3=>some [115,121,115,116,101,109,46,112,111,115,105,120,95,97,99,108,95,100,101,102,97,117,108,116]
 | 4=>some [116,114,117,115,116,101,100,46]
 | 6=>some [115,101,99,117,114,105,116,121,46]
 | 7=>some [115,121,115,116,101,109,46]
 | 8=>some [115,121,115,116,101,109,46,114,105,99,104,97,99,108]
 | _=>none
def AQG {n:Nat}{p:Bs}(a:pfxL n=some p)(K:Q (.tuple #[str p,.bool true]) h):AMR (AH (n:Nat)) h Q:=by
 unfold AMR AW;simp only[go_sem];have c:n<9:=by
  rcases P5 n 9 with b|b
  ·exact b
  ·unfold pfxL at a;split at a<;>first|omega|cases a
 have:n=0\/n=1\/n=2\/n=3\/n=4\/n=5\/n=6\/n=7\/n=8:=by omega
 rcases this with rfl|rfl|rfl|rfl|rfl|rfl|rfl|rfl|rfl<;>cases a<;>exact K
section
attribute [local irreducible] BJ CR Ak Bc An Aa AK Ac
def se {b o n c:Nat}{l:List Vz}{bs:Bs}{T:Tj}{fz:Nat×Nat}(w:AN x h)[Be b x (.cells ⟨l⟩ T fz)](g:o+n<=l.length)(f:(l.drop o).take n=bs.map bc):r8 (.slice (some ⟨b,o,none⟩) n c) h k=k (str bs):=by
 have e:OE h (.slice (some ⟨b,o,none⟩) n c)=some (str bs):=by
  unfold OE;simp only[w.find (b:=b),Z5,K3,if_false];rw[D0 (by simpa using g)];have:((⟨l⟩:Array Vz).extract o (o+n)).toList=bs.map bc:=by
   rw[<-f];simp[I3]
  have d:∀ l:Bs,EY (l.map bc)=some l:=by
   intro l
   induction l with
   | nil=>rfl
   | cons a l i=>simp[EY,bc,i]
  rw[this,d]
 exact propext ⟨fun⟨v,a,b⟩=>by rw[e] at a;cases a;exact b,fun a=>⟨_,e,a⟩⟩
def RdX.str {v:Vz}{bs:Bs}(d:RdX x v bs)(w:AN x h)(K:k (str bs)):r8 v h k:=by
 rcases d with⟨i,e,a,c⟩|⟨b,o,e,all,T,fz,y,a,c,f,g,j⟩
 ·subst a c;exact⟨_,sf,K⟩
 ·subst a c;rw[se w f g];exact K
def RdX.mono {v:Vz}{bs:Bs}(d:RdX x v bs):RdX (y+x) v bs:=d.bf
inductive AttrR (b all:Bs) (ins:Bool):Nat->Nat->List (Bs×Bs)->Prop
 | stop {at' low:Nat}:at'+4<=b.length->leL b at' 4=0->all.length-b.length+at'+4<=low->AttrR b all ins at' low []
 | step {at' low:Nat} {p:Bs} {rest:List (Bs×Bs)}:leL b at' 4≠0->at'+16+leL b at' 1<=b.length->leL b (at'+4) 4=0->pfxL (leL b (at'+1) 1)=some p->leL b (at'+2) 2+leL b (at'+8) 4<=all.length ->
   (ins=true/\leL b (at'+12) 4=0\/leL b (at'+12) 4=hashX ((b.drop (at'+16)).take (leL b at' 1)) ((all.drop (leL b (at'+2) 2)).take (leL b (at'+8) 4)))->(0<leL b (at'+8) 4->leL b (at'+2) 2%4=0)->
   AttrR b all ins (at'+(16+leL b at' 1+3)/4*4) (if 0<leL b (at'+8) 4 then min low (leL b (at'+2) 2) else low) rest ->
   AttrR b all ins at' low ((p++(b.drop (at'+16)).take (leL b at' 1),(all.drop (leL b (at'+2) 2)).take (leL b (at'+8) 4))::rest)
inductive AtV (x:Res):List Vz->List (Bs×Bs)->Prop
 | nil:AtV x [] []
 | cons {nm bs:Bs} {v:Vz} {cs:List Vz} {l:List (Bs×Bs)}:RdX x v bs->AtV x cs l->AtV x ([str nm,v]++cs) ((nm,bs)::l)
theorem AtV.mono:∀ {cs:List Vz} {l:List (Bs×Bs)},AtV x cs l->AtV (y+x) cs l
 | _,_,.nil=>.nil
 | _,_,.cons d a=>.cons d.bf a.mono
theorem AtV.eu {nm bs:Bs}{v:Vz}:∀ {cs:List Vz} {l:List (Bs×Bs)},AtV x cs l->RdX x v bs->AtV x (cs++[str nm,v]) (l++[(nm,bs)])
 | _,_,.nil,d=>.cons d .nil
 | _,_,.cons d a,e=>.cons d (a.eu e)
def CU:Am TP 86=some (.agg ⟨[str [],.slice none 0 0]⟩):=by kernel_rfl
def AG5 {n:Nat}{p:Bs}(a:pfxL n=some p):p.length<100:=by
 unfold pfxL at a;split at a<;>cases a<;>decide
section
variable {ib:Nat} {ic:Array Vz} {nv x0 bv av v:Vz} {b all:Bs} {ins:Bool} {at' low n:Nat} {cs:List Vz} {done:List (Bs×Bs)}
def Yo {kk:Iq}{a c:Nat}(K:k (.int kk (min a c:Nat))):ADs (.int kk (a:Int)) (.int kk (c:Int)) k:=by
 refine⟨kk,a,c,rfl,rfl,?_⟩;have e:(if (c:Int)<(a:Int) then (c:Int) else (a:Int))=((min a c:Nat):Int):=by
  by_cases b:(c:Int)<(a:Int)
  ·rw[D0 b];omega
  ·rw[F0 b];omega
 rw[e];exact K
def AOA {rec1:Vz->Vz->Vz->H->Prop}{x1 x2 j x4 x14 tv vv:Vz}{p a val:Bs}{len c:Nat}(d:Vec 86 2 v n cs r)(A:AtV y cs done)(e:RdX (y+x) tv a)(dv:RdX y vv val)(w:AN (r+(y+x)) h)(m:n<=1000000)(o:p.length<100)(q:a.length<1000)(f:at'<1000000)(l:len<1000)
  (K:∀ v r h,Vec 86 2 v (n+1) (cs++[str (p++a),vv]) r->AtV y (cs++[str (p++a),vv]) (done++[(p++a,val)])->AN (r+(y+x)) h->rec1 v (AH (at'+(16+len+3)/4*4:Nat)) (AH (c:Nat)) h) :
  ML Q rec1 x0 x1 x2 j x4 v (AH (at':Nat)) (AH (c:Nat)) x14 (AH (len:Nat)) (str p) tv vv h:=by
 obtain⟨g,i,rfl⟩:=dv.len;unfold ML AW;refine e.bf.str w ?_;rw[Jg (by omega)];refine BA CU rfl (rs:=[str (p++a),.slice g val.length i]) rfl ?_;refine CN d w CU rfl rfl (by omega) (by omega) rfl fun b h w=>?_;refine CA d w CU rfl rfl rfl (by omega) (by omega) fun v r h d w=>?_;have f1:(AQ .add (AH 16) (AH (len:Nat)))=fun k=>k (AH ((16+len:Nat):Int)):=funext fun k=>by
  rw[BT,<-Dn (show 16+len<18446744073709551616 by omega)];rfl
 simp (disch:=omega) only[go_sem,f1];exact K v r h d (A.eu dv) w
def AOB (db:RdX x bv b)(da:RdX x av all)(hbl:b.length<=all.length)(hal:all.length<100000){l:List (Bs×Bs)}(A:AttrR b all ins 0 all.length l)(w:AN (pts ib (.cells ic 81 (0,0))+x) h)(hnum:ic[0]? = some nv)
  (K:∀ v cs r y h,Vec 86 2 v l.length cs r->AtV y cs l->AN (r+(y+(pts ib (.cells ic 81 (0,0))+x))) h->Q v h) :
  YL Q x0 (Pt ib) bv av (.bool ins) (AH (all.length-b.length:Nat))  cst__slice_none_0_0  (AH ((0:Nat):Int)) (AH (all.length:Nat)) h:=by
 obtain⟨ba,bcc,hb⟩:=db.len;obtain⟨aa,ac,ha⟩:=da.len;unfold YL;refine Ms (fun m u0 u1 u2 h'=>∃ at' low v n cs r y done rest,m=b.length+1000-at'/\u0=v/\u1=AH (at':Nat)/\u2=AH (low:Nat)/\Vec 86 2 v n cs r/\AtV y cs done/\AttrR b all ins at' low rest/\done++rest=l/\n=done.length/\n<=at'/\at'<b.length+500/\low<=all.length/\AN (r+(y+(pts ib (.cells ic 81 (0,0))+x))) h')
  (b.length+1000) ⟨0,all.length,.slice none 0 0,0,[],0,0,[],l,by omega,rfl,rfl,rfl,.nil,.nil,A,rfl,rfl,Q2 _,by omega,I0 _,by rw[Res.zero_add,Res.zero_add];exact w⟩ ?_
 rintro rec m u0 u1 u2 h' ⟨at',low,v,n,cs,r,y,done,rest,rfl,rfl,rfl,rfl,d,av',A,hl,rfl,hn,hat,hlow,w⟩ hrec;have dbx:RdX (r+(y+(pts ib (.cells ic 81 (0,0))+x))) bv b:=db.bf.bf.bf;have wl:Ae false 1 (.pointer (some ⟨ib,0,none⟩)) h'=qm (some nv):=funext fun k=>by
  rw[AC (w.cast (show r+(y+(pts ib (.cells ic 81 (0,0))+x))=pts ib (.cells ic 81 (0,0))+(r+(y+x)) by ac_rfl)),hnum]
 unfold YJ BL;rw[hb];simp (disch:=omega) only[go_sem];rw[<-hb];cases A with
 | stop h1 h2 h3=>
  have e1:decide (((at'+4:Nat):Int)<=(b.length:Int))=true:=H0 (by omega);rw[e1,CV];refine Cd (NF (n:=4) dbx w (by omega) (by omega) (by omega) ?_);rw[h2];have f1:(AQ .neq (AH ((0:Nat):Int)) AO )=fun k=>k AE :=funext fun k=>by rw[Ay];rfl
  simp only[f1,AJ];unfold ABE AW;rw[hb];simp (disch:=omega) only[go_sem];have e2:decide (((all.length-b.length+at'+4:Nat):Int)<=(low:Int))=true:=H0 (by omega);rw[e1,CV,e2];simp (disch:=omega) only[go_sem,wl];refine BH (EW ?_);rw[X0] at hl;subst hl;exact K _ cs r y h' d av' w
 | step g1 g2 g3 g4 g5 g6 g7 A'=>
  rename_i p rest;have l1:leL b at' 1<256:=Ar;have l2:leL b (at'+1) 1<256:=Ar;have l3:leL b (at'+2) 2<65536:=Ar;have l4:leL b (at'+8) 4<4294967296:=Ar;have l5:leL b (at'+12) 4<4294967296:=Ar;have e1:decide (((at'+4:Nat):Int)<=(b.length:Int))=true:=H0 (by omega);rw[e1,CV];refine Cd (NF (n:=4) dbx w (by omega) (by omega) (by omega) ?_);have f1:(AQ .neq (AH (leL b at' 4:Nat)) AO )=fun k=>k  AI :=funext fun k=>by rw[Ay,H0 (by omega)]
  simp only[f1,Ab];unfold ABG AW;have e2:decide (((at'+16:Nat):Int)>(b.length:Int))=false:=J0 (by omega);rw[hb];simp (disch:=omega) only[go_sem];rw[e2,<-hb,AJ];refine Cd (NF (n:=1) dbx w (by omega) (by omega) (by omega) ?_);refine Cd (NF (n:=1) dbx w (by omega) (by omega) (by omega) ?_);refine Cd (NF (n:=2) dbx w (by omega) (by omega) (by omega) ?_);refine Cd (NF (n:=4) dbx w (by omega) (by omega) (by omega) ?_);simp (disch:=omega) only[go_sem,wl];refine Cd (NF (n:=4) dbx w (by omega) (by omega) (by omega) ?_);rw[g3];refine⟨by rw[wl];rfl,?_⟩;have f2:(AQ .eql (AH ((0:Nat):Int)) AO )=fun k=>k AI :=funext fun k=>by rw[AT];rfl
  simp only[f2];refine BH (EW ?_);refine fw (AQG g4 ?_);simp (disch:=omega) only[go_sem,wl];refine BH (EW ?_);have e3:decide (((at'+16+leL b at' 1:Nat):Int)>(b.length:Int))=false:=J0 (by omega);have e4:decide (((leL b (at'+2) 2+leL b (at'+8) 4:Nat):Int)>(all.length:Int))=false:=J0 (by omega);have e5:decide (((leL b (at'+2) 2+leL b (at'+8) 4:Nat):Int)<(leL b (at'+2) 2:Int))=false:=J0 (by omega);rw[ha];simp (disch:=omega) only[go_sem];rw[e3,Bt,e4,Bt,e5,<-ha];unfold ABF AW;simp (disch:=omega) only[go_sem];have dbp:RdX (y+(pts ib (.cells ic 81 (0,0))+x)) bv b:=db.bf.bf;refine dbp.slice (i:=at'+16) (j:=at'+16+leL b at' 1) Bk Bk (by omega) (by omega) fun tv dt=>?_;rw[V3,M4] at dt;refine Dh (l:=[]) w (by omega) rfl rfl fun eb h w=>?_;refine da.slice (i:=leL b (at'+2) 2) (j:=leL b (at'+2) 2+leL b (at'+8) 4) Bk Bk (by omega) (by omega) fun sv ds=>?_;rw[V3,M4] at ds;have hvl:((all.drop (leL b (at'+2) 2)).take (leL b (at'+8) 4)).length=leL b (at'+8) 4:=by simp;omega
  have htl:((b.drop (at'+16)).take (leL b at' 1)).length=leL b at' 1:=by simp;omega
  refine Bu (BufV.own' (n:=0) (all:=[]) (c:=0) (bs:=[]) (I0 _) rfl rfl) w (ds.bf.bf.bf.rd w.right) (by rw[hvl];simp;omega) fun vv vr h bv' w=>?_;rw[U2] at bv';have w:AN (r+((vr+y)+(pts ib (.cells ic 81 (0,0))+x))) h:=w.cast (by ac_rfl);have wl:Ae false 1 (.pointer (some ⟨ib,0,none⟩)) h=qm (some nv):=funext fun k=>by
   rw[AC (w.cast (show r+((vr+y)+(pts ib (.cells ic 81 (0,0))+x))=pts ib (.cells ic 81 (0,0))+(r+((vr+y)+x)) by ac_rfl)),hnum]
  have dbx:RdX (r+((vr+y)+(pts ib (.cells ic 81 (0,0))+x))) bv b:=db.bf.bf.bf;have dt':RdX (vr+y+(pts ib (.cells ic 81 (0,0))+x)) tv ((b.drop (at'+16)).take (leL b at' 1)):=by rw[Res.assoc];exact dt.bf
  have dv':RdX (vr+y) vv ((all.drop (leL b (at'+2) 2)).take (leL b (at'+8) 4)):=bv'.rdX.an;have fin:∀ lw,lw=(if 0<leL b (at'+8) 4 then min low (leL b (at'+2) 2) else low)->ML Q rec x0 (Pt ib) bv av (.bool ins) u0 (AH (at':Nat)) (AH (lw:Nat)) (AH (all.length-b.length:Nat)) (AH (leL b at' 1:Nat)) (str p) tv vv h:=by
   intro lw hlw;refine AOA d av'.mono dt' dv' w (by omega) (AG5 g4) (by omega) (by omega) (by omega) fun v r h d av' w=>?_;refine hrec (b.length+1000-(at'+(16+leL b at' 1+3)/4*4)) _ _ _ _ ⟨at'+(16+leL b at' 1+3)/4*4,lw,v,_,_,r,_,_,rest,rfl,rfl,rfl,rfl,d,av',by rw[hlw];exact A',by rw[<-hl];simp,by simp,by omega,by omega,by rw[hlw];split<;>omega,w⟩ (by omega)
  have tail:BJ (.bool (decide ((leL b (at'+8) 4:Int)>0))) (AQ .rem (AH (leL b (at'+2) 2:Nat)) (AH 4) fun x169=>AQ .eql x169  AO  fun x170=>BS (Pt ib) fun x172=>Aw 0 x172 fun x173=>Ae false 1 x173 h fun x174=>Call TP 65 [x0,x170,(.string ⟨#[112,108,97,99,101,32,111,102,32,97,32,118,97,108,117,101,32,111,102,32,105,110,111,100,101]⟩),x174] h fun x175 h=>ADs (AH (low:Nat)) (AH (leL b (at'+2) 2:Nat)) fun x178=>ML Q rec x0 (Pt ib) bv av (.bool ins) u0 (AH (at':Nat)) x178 (AH (all.length-b.length:Nat)) (AH (leL b at' 1:Nat)) (str p) tv vv h)
    (ML Q rec x0 (Pt ib) bv av (.bool ins) u0 (AH (at':Nat)) (AH (low:Nat)) (AH (all.length-b.length:Nat)) (AH (leL b at' 1:Nat)) (str p) tv vv h):=by
   refine AS (fun hc=>?_) (fun hc=>?_)
   ·have h0:0<leL b (at'+8) 4:=by omega
    have f3:(AQ .rem (AH (leL b (at'+2) 2:Nat)) (AH 4))=fun k=>k (AH ((0:Nat):Int)):=funext fun k=>by
     rw[Su (by decide)];have:=g7 h0;simp[this]
    simp (disch:=omega) only[f3,f2,go_sem,wl];refine BH (EW ?_);exact Yo (fin _ (by rw[D0 h0]))
   ·exact fin low (by rw[F0 (by omega)])
  refine Cd (NF (n:=4) dbx w (by omega) (by omega) (by omega) ?_);have main:∀ c:Bool,(c=true->leL b (at'+12) 4=hashX ((b.drop (at'+16)).take (leL b at' 1)) ((all.drop (leL b (at'+2) 2)).take (leL b (at'+8) 4)))->YK Q rec x0 (Pt ib) bv av (.bool ins) u0 (AH (at':Nat)) (AH (low:Nat)) (AH (all.length-b.length:Nat)) (AH (leL b at' 1:Nat)) (AH (leL b (at'+2) 2:Nat)) (AH (leL b (at'+8) 4:Nat)) (str p) tv vv (AH (leL b (at'+12) 4:Nat)) (.bool c) h:=by
   intro c hc;unfold YK AW;cases c with
   | false=>
    rw[AJ,Ah];exact tail
   | true=>
    rw[Ab];have hh:=hc rfl;have nf:∀ k:Vz->Prop,(BS (Pt ib) fun x161=>Aw 0 x161 k)=k (.pointer (some ⟨ib,0,none⟩)):=fun k=>by simp only[go_sem]
    rw[nf,wl];show Call TP 212 _ _ _;refine AGZ (ASx w dt'.bf dv'.an.bf (by rw[hvl];omega) (by rw[htl];omega) ?_);rw[<-hh];refine⟨by rw[wl];rfl,?_⟩;have e8:decide ((leL b (at'+12) 4:Int)=(leL b (at'+12) 4:Int))=true:=H0 rfl;rw[Ea,Dn (by omega),AT,e8];refine BH (EW ?_);rw[Ah];exact tail
  cases hins:ins with
  | false=>
   subst hins;rw[show (!false)=true from rfl,Hi];refine main true fun _=>?_;rcases g6 with⟨g,_⟩|g
   ·cases g
   ·exact g
  | true=>
   subst hins;rw[show (!true)=false from rfl,Bt,Ay];refine main _ fun e=>?_;have:=of_decide_eq_true e;rcases g6 with⟨_,g⟩|g
   ·omega
   ·exact g
def ASt (db:RdX x bv b)(e:RdX x av all)(d:b.length<=all.length)(c:all.length<100000){l:List (Bs×Bs)}(A:AttrR b all ins 0 all.length l)(w:AN (pts ib (.cells ic 81 (0,0))+x) h)(a:ic[0]? = some nv)
  (K:∀ v cs r y h,Vec 86 2 v l.length cs r->AtV y cs l->AN (r+(y+(pts ib (.cells ic 81 (0,0))+x))) h->Q v h) :
  AMk x0 (Pt ib) bv av (.bool ins) h Q:=by
 obtain⟨n,i,g⟩:=db.len;obtain⟨j,m,f⟩:=e.len;unfold AMk AW;rw[g,f];simp (disch:=omega) only[go_sem];rw[<-g,<-f];exact AOB db e d c A w a K
end
attribute [local irreducible] VS.cells
def VecX (T:Tj)(sz:Nat)(v:Vz)(n:Nat)(vs:List Vz)(x:Res):Prop:=∃ r y,x=r+y/\Vec T sz v n vs r
def Vec.vx {T:Tj}{sz n:Nat}{v:Vz}{vs:List Vz}(d:Vec T sz v n vs r):VecX T sz v n vs r:=⟨r,0,(Res.add_zero _).symm,d⟩
def VecX.an {T:Tj}{sz n:Nat}{v:Vz}{vs:List Vz}(d:VecX T sz v n vs x):VecX T sz v n vs (x+y):=by
 obtain⟨r,z,rfl,d⟩:=d;exact⟨r,z+y,Res.assoc _ _ _,d⟩
def VecX.bf {T:Tj}{sz n:Nat}{v:Vz}{vs:List Vz}(d:VecX T sz v n vs x):VecX T sz v n vs (y+x):=by rw[Res.comm];exact d.an
def VecX.len {T:Tj}{sz n:Nat}{v:Vz}{vs:List Vz}(d:VecX T sz v n vs x):(∃ a c,v=.slice a n c)/\vs.length=n*sz:=by
 obtain⟨r,y,_,d⟩:=d;exact d.len
def VecX.agg {T:Tj}{sz n i:Nat}{kk:Iq}{v:Vz}{vs:List Vz}(d:VecX T sz v n vs x)(w:AN x h)(hi:i<n)(K:k (.agg ⟨(vs.drop (i*sz)).take sz⟩)):Ap (.slice sz) v (.int kk (i:Int)) fun a=>Ae true sz a h k:=by
 obtain⟨r,y,rfl,d⟩:=d;exact TI d w hi K
def Vec.cap {T:Tj}{sz n n' c:Nat}{a:Option Addr}{v:Vz}{vs:List Vz}(d:Vec T sz v n vs r)(e:v=.slice a n' c):n<=c:=by
 cases d with
 | nil=>exact Q2 _
 | own b _=>cases e;exact b
def VecX.cell {T:Tj}{sz n i j:Nat}{kk:Iq}{v u:Vz}{vs:List Vz}(d:VecX T sz v n vs x)(w:AN x h)(hi:i<n)(f:j<sz)(e:vs[i*sz+j]? = some u)(K:k u):Ap (.slice sz) v (.int kk (i:Int)) fun a=>Aw j a fun p=>Ae false 1 p h k:=by
 obtain⟨r,y,rfl,d⟩:=d;cases d with
 | nil=>omega
 | own o m=>
  rename_i b c all;refine⟨kk,i,rfl,_,n,c,rfl,by omega,by omega,?_⟩;have g:=H3 sz (show i+1<=n by omega);rw[V5,P6] at g;rw[J5,Cb,U1];have l:∀ k:Vz->Prop,Aw j (.pointer (some ⟨b,i*sz,none⟩)) k=k (.pointer (some ⟨b,i*sz+j,none⟩)):=fun k=>by simp only[go_sem]
  show Aw j (.pointer (some ⟨b,i*sz,none⟩)) _;rw[l,AC w];have:(⟨all⟩:Array Vz)[i*sz+j]? = some u:=by
   rw[I2] at e;split at e
   ·simpa using e
   ·cases e
  rw[this];exact K
theorem AtV.name:∀ {cs:List Vz} {l:List (Bs×Bs)} {i:Nat} {p:Bs×Bs},AtV x cs l->l[i]? = some p->cs[i*2+0]? = some (str p.1)/\∃ v,cs[i*2+1]? = some v/\RdX x v p.2
 | _,_,0,p,.cons d a,e=>by
  simp only[L4,M2] at e;subst e;exact⟨rfl,_,rfl,d⟩
 | _,_,i+1,p,.cons (nm:=nm) (v:=v) (cs:=cs) d a,e=>by
  have:=a.name (i:=i) (p:=p) (by simpa using e);rw[show (i+1)*2+0=(i*2+0)+2 by omega,show (i+1)*2+1=(i*2+1)+2 by omega];exact this
 | _,_,_,_,.nil,e=>by simp at e
section
variable {ib:Nat} {ic:Array Vz} {nv x0 bv v:Vz} {b:Bs} {cs:List Vz} {l:List (Bs×Bs)}
def NoDup2 (l:List (Bs×Bs)):Prop:=∀ (i j:Nat) (p q:Bs×Bs),l[i]? = some p->l[j]? = some q->j<i->p.1≠q.1
def XaR (b:Bs)(l:List (Bs×Bs)):Prop:=b.length=256/\leL b 104 4=0/\(leL b 152 4≠3925999616/\l=[]\/leL b 152 4=3925999616/\AttrR (b.drop 156) (b.drop 156) true 0 100 l)
theorem AN8 (d:VecX 86 2 v l.length cs x)(A:AtV y cs l)(ah:NoDup2 l)(w:AN x h)(hn:l.length<1000000)(wl:Ae false 1 (.pointer (some ⟨ib,0,none⟩)) h=qm (some nv))(K:Q v h):Xx Q x0 (Pt ib) v h:=by
 obtain⟨⟨a,c,n⟩,_⟩:=d.len;unfold Xx AAj AW;rw[n,As,<-n];refine Bj (fun m u s=>∃ i,m=l.length-i/\i<=l.length/\u=AB (i:Nat)/\s=h) l.length ⟨0,rfl,Q2 _,rfl,rfl⟩ ?_;rintro rec m u s ⟨i,rfl,hi,rfl,rfl⟩ g;unfold Xv BL;simp (disch:=omega) only[go_sem];refine AS (fun hc=>?_) (fun hc=>K);have ae:i<=c:=by
  obtain⟨r,y',rfl,d⟩:=d;have:=d.cap n;omega
 have e:∃ o,Bi (.slice 2) v none (some (AB (i:Nat)))=some (.slice o i c):=by
  rw[n];refine⟨if c=0 then a else a.map (·.add (0*2)),?_⟩;have e1:Bb l.length (some (AB (i:Int)))=some i:=Bk;have e2:Bb 0 none=some 0:=rfl;simp only[Bi,e1,e2];rw[D0 ⟨Q2 _,ae⟩,C8,C8]
 obtain⟨o,e⟩:=e;refine⟨_,e,?_⟩;show DM (.slice o i c) _;rw[As];unfold AAk;refine Bj (fun m u f=>∃ j,m=i-j/\j<=i/\u=AB (j:Nat)/\f=s) i ⟨0,rfl,Q2 _,rfl,rfl⟩ ?_;rintro rec2 m u f ⟨j,rfl,hj,rfl,rfl⟩ b;unfold Xw BL;simp (disch:=omega) only[go_sem];refine AS (fun t=>?_) (fun t=>?_)
 ·obtain⟨p,hp⟩:∃ p,l[i]? = some p:=⟨_,B0 (by omega)⟩;obtain⟨q,hq⟩:∃ q,l[j]? = some q:=⟨_,B0 (by omega)⟩;refine d.cell w (by omega) (by omega) (A.name hp).1 ?_;refine d.cell w (by omega) (by omega) (A.name hq).1 ?_;have e1:decide (p.1≠q.1)=true:=H0 (ah i j p q hp hq (by omega));rw[EF,e1,wl];refine BH (EW ?_);exact b (i-(j+1)) _ _ ⟨j+1,rfl,by omega,rfl,rfl⟩ (by omega)
 ·exact g (l.length-(i+1)) _ _ ⟨i+1,rfl,by omega,rfl,rfl⟩ (by omega)
def ASd {v:VS}(ok:v.OK x)(db:RdX x bv b)(xa:XaR b l)(o:NoDup2 l)(hl:l.length<1000000)(w:AN (v.res+(pts ib (.cells ic 81 (0,0))+x)) h)(a:ic[0]? = some nv)
  (K:∀ lv cs y h,VecX 86 2 lv l.length cs y->AtV y cs l->AN (v.res+(pts ib (.cells ic 81 (0,0))+(y+x))) h->Q lv h):AMM (Pt v.vb) (Pt ib) bv (AH ((24:Nat):Int)) h Q:=by
 obtain⟨c,q,hx⟩:=xa;have tail:∀ (lv:Vz) (cs:List Vz) (y:Res) (h:H),VecX 86 2 lv l.length cs y->AtV y cs l->AN (v.res+(pts ib (.cells ic 81 (0,0))+(y+x))) h->(Call TP 66 [bv,AH 104,AH 4] h fun f h=>BS (Pt v.vb) fun s=>Aw 10 s fun t=>Ae false 1 t h fun u=>BJ u (Call TP 66 [bv,AH 118,AH 2] h fun ae h=>AQ .shl ae  Bw  fun ah=>AQ .or f ah fun ai=>SL Q (Pt v.vb) (Pt ib) lv ai h)
    (SL Q (Pt v.vb) (Pt ib) lv f h)):=by
  intro lv cs y h d A w;refine Cd (NF (p:=104) (n:=4) db.bf.bf.bf w (by omega) (by omega) (by omega) ?_);rw[q];simp (disch:=omega) only[go_sem,AC w];unfold SL AW;have f1:(AQ .neq (AH ((0:Nat):Int)) AO )=fun k=>k AE :=funext fun k=>by rw[Ay];rfl
  simp only[f1,AJ];have wl:Ae false 1 (.pointer (some ⟨ib,0,none⟩)) h=qm (some nv):=funext fun k=>by rw[AC w,a]
  exact AN8 d.an.bf.bf A o w hl wl (K lv cs y h d A w)
 unfold AMM AW;have f1:(AQ .add (AH 128) (AH ((24:Nat):Int)))=fun k=>k (AH ((152:Nat):Int)):=funext fun k=>by rw[BT];rfl
 have f2:(AQ .add (AH ((152:Nat):Int)) (AH 4))=fun k=>k (AH ((156:Nat):Int)):=funext fun k=>by rw[BT];rfl
 simp (disch:=omega) only[f1,go_sem,AC w];have e3:decide ((256:Int)>=((152+4:Nat):Int))=true:=by decide
 rw[e3,CV];refine Cd (NF (p:=152) (n:=4) db.bf.bf w (by omega) (by omega) (by omega) ?_);rw[AT];unfold AAi AW;refine AS (fun hc=>?_) (fun hc=>?_)
 ·rcases hx with⟨e,_⟩|⟨e,A⟩
  ·omega
  ·simp only[f1,f2];refine db.slice (i:=156) (j:=256) Bk (by rw[c];rfl) (by omega) (by omega) fun sv g=>?_;rw[<-c,L1] at g;have m:(b.drop 156).length=100:=by simp;omega
   have w':AN (pts ib (.cells ic 81 (0,0))+(v.res+x)) h:=w.cast (Res.left_comm _ _ _);refine AGV (ASt g.bf g.bf (I0 _) (by omega) (by rw[m];exact A) w' a fun lv cs r y h d A w=>?_);exact tail lv cs (r+y) h d.vx.an A.mono (w.cast (by ac_rfl))
 ·rcases hx with⟨e,rfl⟩|⟨e,_⟩
  ·exact tail _ [] 0 h Vec.nil.vx .nil (w.cast (by rw[Res.zero_add]))
  ·exact absurd (by rw[e];rfl) hc
end
variable {v:VS}
structure XN where
 num:Nat
 en:Nat
 uid:Nat
 gid:Nat
 size:Nat
 ek:Nat
 sec:Nat
 ed:Nat
 at_:Nat×Nat
 ct:Nat×Nat
 mt:Nat×Nat
 cr:Nat×Nat
 major:Nat
 minor:Nat
 inl:Bool
 blk:Nat
def CW (p:Nat×Nat):List Vz:=(NP p.1 p.2).map (.int .i64 ·)
def XN.cells (X:XN)(cv ev xv:Vz):List Vz:=
 [AH (X.num:Nat),cU16 (X.en:Nat),AM (X.uid:Nat),AM (X.gid:Nat),AH (X.size:Nat),AH (X.ek:Nat),AH (X.sec:Nat),AH (X.ed:Nat)]++(CW X.at_++CW X.ct++CW X.mt++CW X.cr) ++
 [AM (X.major:Nat),AM (X.minor:Nat),cv,ev,xv,.bool X.inl,AH (X.blk:Nat)]
section
variable {X:XN} {cv ev xv:Vz}
@[go_sem] theorem XN.g0:(⟨X.cells cv ev xv⟩:Array Vz)[0]? = some (AH (X.num:Nat)):=rfl
@[go_sem] theorem XN.g1:(⟨X.cells cv ev xv⟩:Array Vz)[1]? = some (cU16 (X.en:Nat)):=rfl
@[go_sem] theorem XN.g4:(⟨X.cells cv ev xv⟩:Array Vz)[4]? = some (AH (X.size:Nat)):=rfl
@[go_sem] theorem XN.g5:(⟨X.cells cv ev xv⟩:Array Vz)[5]? = some (AH (X.ek:Nat)):=rfl
@[go_sem] theorem XN.g6:(⟨X.cells cv ev xv⟩:Array Vz)[6]? = some (AH (X.sec:Nat)):=rfl
@[go_sem] theorem XN.g7:(⟨X.cells cv ev xv⟩:Array Vz)[7]? = some (AH (X.ed:Nat)):=rfl
@[go_sem] theorem XN.g18:(⟨X.cells cv ev xv⟩:Array Vz)[18]? = some cv:=rfl
@[go_sem] theorem XN.g19:(⟨X.cells cv ev xv⟩:Array Vz)[19]? = some ev:=rfl
@[go_sem] theorem XN.g20:(⟨X.cells cv ev xv⟩:Array Vz)[20]? = some xv:=rfl
@[go_sem] theorem XN.g21:(⟨X.cells cv ev xv⟩:Array Vz)[21]? = some (.bool X.inl):=rfl
@[go_sem] theorem XN.g22:(⟨X.cells cv ev xv⟩:Array Vz)[22]? = some (AH (X.blk:Nat)):=rfl
theorem XN.set16 {n:Nat}:Av (⟨X.cells cv ev xv⟩:Array Vz) 16 [AM (n:Nat)]=⟨{X with major:=n}.cells cv ev xv⟩:=rfl
theorem XN.set17 {n:Nat}:Av (⟨X.cells cv ev xv⟩:Array Vz) 17 [AM (n:Nat)]=⟨{X with minor:=n}.cells cv ev xv⟩:=rfl
theorem XN.set18 {u:Vz}:Av (⟨X.cells cv ev xv⟩:Array Vz) 18 [u]=⟨X.cells u ev xv⟩:=rfl
theorem XN.set19 {u:Vz}:Av (⟨X.cells cv ev xv⟩:Array Vz) 19 [u]=⟨X.cells cv u xv⟩:=rfl
theorem XN.set20 {u:Vz}:Av (⟨X.cells cv ev xv⟩:Array Vz) 20 [u]=⟨X.cells cv ev u⟩:=rfl
theorem XN.set21 {b:Bool}:Av (⟨X.cells cv ev xv⟩:Array Vz) 21 [.bool b]=⟨{X with inl:=b}.cells cv ev xv⟩:=rfl
theorem XN.set22 {n:Nat}:Av (⟨X.cells cv ev xv⟩:Array Vz) 22 [AH (n:Nat)]=⟨{X with blk:=n}.cells cv ev xv⟩:=rfl
theorem XN.size_:(⟨X.cells cv ev xv⟩:Array Vz).size=23:=rfl
end
attribute [local irreducible] XN.cells
def om {b off n c:Nat}{all src:Bs}{s:Vz}{T:Tj}{kt:Kt}(w:AN (pts b (.cells (bcs all) T (0,0))+x) h)(d:RdX x s src)(a:off+min src.length n<=all.length)
  (K:∀ h,AN (pts b (.cells (bcs (setL all off (src.take (min src.length n)))) T (0,0))+x) h->kt (AB (min src.length n:Nat)) h):JB 1 (.slice (some ⟨b,off,none⟩) n c) s h kt:=by
 have rd:=d.rd w.right;have e:(src.take (min src.length n)).length=min src.length n:=by simp
 refine⟨_,n,c,src.length,bcs (src.take (min src.length n)),rfl,rd.srcLen,?_,.inr ⟨_,bcs all,T,rfl,rfl,w.left.one,by rw[DX,DX,e];exact a,LD _,?_⟩⟩
 ·exact rd.src _ (Nat.min_le_left _ _)
 ·simp only;rw[Ds (by rw[e];exact a)];exact K _ w.set
def CK (I:Bs)(start size k:Nat):Bs:=(I.drop (start*4096)).take (min (k*4096) size)++List.replicate (size-min (k*4096) size) 0
def AHU {A Z m:Bs}{o:Nat}(b:o=A.length)(a:m.length<=Z.length):setL (A++Z) o m=A++m++Z.drop m.length:=by
 subst b;unfold setL;rw[L7,List.drop_append,M4,C5 (by omega),U2]
def AK8 {I:Bs}{start size k:Nat}(h:start*4096+size<=I.length):(CK I start size k).length=size:=by
 unfold CK;simp;omega
def AE6 {I:Bs}{start size k:Nat}(h:start*4096+size<=I.length)(c:k*4096<size) :
  setL (CK I start size k) (k*4096) ((blkL I (start+k)).take (min (blkL I (start+k)).length (size-k*4096)))=CK I start size (k+1):=by
 have e1:min (k*4096) size=k*4096:=by omega
 have b:(blkL I (start+k)).take (min (blkL I (start+k)).length (size-k*4096))=((I.drop (start*4096)).drop (k*4096)).take (min ((k+1)*4096) size-k*4096):=by
  unfold blkL;rw[H5,T6,<-V5,W1,J2];congr 1;omega
 have a:(((I.drop (start*4096)).drop (k*4096)).take (min ((k+1)*4096) size-k*4096)).length=min ((k+1)*4096) size-k*4096:=by
  simp;omega
 rw[b];unfold CK;rw[AHU (by simp;omega) (by rw[a];simp;omega),a,e1];have e2:(I.drop (start*4096)).take (k*4096)++((I.drop (start*4096)).drop (k*4096)).take (min ((k+1)*4096) size-k*4096)=(I.drop (start*4096)).take (min ((k+1)*4096) size):=by
  rw[<-List.take_add];congr 1;omega
 rw[e2];congr 1;rw[List.drop_replicate];congr 1;omega
attribute [local irreducible] CK
section
variable {X:XN} {ev xv nv x2 x10 x12:Vz} {cb ib nx start len size:Nat} {C o':Bs}
abbrev xR (ib cb nx:Nat)(X:XN)(cv ev xv:Vz)(C:Bs)(nv:Vz):Res:=pts ib (.cells ⟨X.cells cv ev xv⟩ 81 (0,0))+(buf cb C+pts nx (.cells ⟨[nv]⟩ 48 (0,0)))
def AOC {rec1:Vz->H->Prop}{i:Nat}(ok:v.OK x)(ar:X.size=size)(h1:(len-1)*4096<size)(h0:0<len)(q:len<=32768)(hi:i<10)(hs:(start+len)<=v.nb)(ao:size<=len*4096)(c:Clm ((List.range len).map (start + ·)) v.ow o')(hb:X.blk<100000)
  (w:AN (v.res+(xR ib cb nx X (.slice (some ⟨cb,0,none⟩) size size) ev xv (CK v.I start size 0) nv+x)) h)
  (K:∀ h,(v.own o').OK x->AN ((v.own o').res+(xR ib cb nx {X with blk:=X.blk+len} (.slice (some ⟨cb,0,none⟩) size size) ev xv (CK v.I start size len) (AH (len:Nat))+x)) h->rec1 (AH (i+1:Nat)) h) :
  YO Q rec1 (Pt v.vb) (Pt ib) x2 (Pt nx) x10 x12 (AH (i:Nat)) (AH ((0:Nat):Int)) (AH (len:Nat)) (AH (start:Nat)) (AH ((0:Nat):Int)) h:=by
 have aj:=ok.nb;have ae:=ok.len;have ah:=c.len;unfold YO;refine Bj (fun m u g=>∃ j ow,m+j=len/\u=AH (j:Nat)/\ow.length=v.ow.length/\Clm ((List.range m).map (start+j + ·)) ow o'/\AN ((v.own ow).res+(xR ib cb nx {X with blk:=X.blk+j} (.slice (some ⟨cb,0,none⟩) size size) ev xv (CK v.I start size j) nv+x)) g) len ⟨0,v.ow,by omega,rfl,rfl,c,w⟩ ?_;rintro rec m u g ⟨j,ow,ai,rfl,hl,c2,w⟩ e;have b:(v.own ow).OK x:=ok.own hl;unfold YM BL;simp (disch:=omega) only[go_sem];refine AS (fun hc=>?_) (fun hc=>?_)
 ·have hm:m=(m-1)+1:=by omega
  rw[hm,List.range_succ_eq_map,Q1,D5] at c2;cases c2 with
  | cons g1 g2=>
   refine Jm (pz (v:=v.own ow) (n:=start+j) (s:=[99,111,110,116,101,110,116]) (b.mono (y:=xR ib cb nx {X with blk:=X.blk+j} (.slice (some ⟨cb,0,none⟩) size size) ev xv (CK v.I start size j) nv)) g1 w (by decide) fun h au w=>?_);have f:((v.own ow).clm (start+j)).OK x:=b.clm (by show start+j<v.nb;omega);simp (disch:=omega) only[go_sem,AC w];refine AD w _ XN.set22 rfl (by rw[XN.size_];omega) rfl fun h w=>?_;have l:(CK v.I start size j).length=size:=AK8 (by omega);simp (disch:=omega) only[go_sem,AC w];have e1:decide ((((0+j)*4096:Nat):Int)<(X.size:Int))=true:=H0 (by omega);rw[e1,Ab];have d:start+j<v.nb:=by omega
   refine Rz (ANx (v:=(v.own ow).clm (start+j)) f d w fun bv db=>?_);refine⟨by rw[AC w,XN.g18];rfl,?_⟩;simp only[U1];have db:RdX x bv (blkL v.I (start+j)):=db;have t:(blkL v.I (start+j)).length=4096:=by unfold blkL;simp;omega
   have k1:∀ V P C N X:Res,V+(P+(C+N)+X)=C+(V+(P+(N+X))):=by intros;ac_rfl
   refine om (w.cast (k1 _ _ _ _ _)) db.bf.bf.bf (by rw[l];omega) fun h w=>?_;have p:=AE6 (I:=v.I) (start:=start) (size:=size) (k:=j) (by omega) (by omega);rw[p] at w;refine e (m-1) _ _ ⟨j+1,setL ow (start+j) [1],by omega,rfl,?_,?_,?_⟩ (by omega)
   ·exact (f.ow.trans ok.ow.symm)
   ·refine Eq.mp ?_ g2;congr 1;refine Q4 fun a _=>?_;simp only[Function.comp];omega
   ·exact w.cast (k1 _ _ _ _ _).symm
 ·have o:m=0:=by omega
  subst o;have hj:j=len:=by omega
  subst hj;cases c2;have w:AN ((v.own o').res+(xR ib cb nx {X with blk:=X.blk+j} (.slice (some ⟨cb,0,none⟩) size size) ev xv (CK v.I start size j) nv+x)) g:=w;simp only[U1];refine AD w ⟨[AH (j:Nat)]⟩ rfl rfl (by simp) rfl fun h w=>K h b w
end
structure Ext1 (e:Bs) (start len:Nat):Prop where
 l60:e.length=60
 magic:leL e 0 2=62218
 ent:leL e 2 2=1
 most:leL e 4 2=4
 dep:leL e 6 2=0
 fr:leL ((e.drop 12).take 12) 0 4=0
 ln:leL ((e.drop 12).take 12) 4 2=len
 hi:leL ((e.drop 12).take 12) 6 2=0
 st:leL ((e.drop 12).take 12) 8 4=start
section
variable {X:XN} {ev xv bv:Vz} {cb ib nx start len size:Nat} {e o':Bs}
def ASu (ok:v.OK x)(ex:Ext1 e start len)(hsz:X.size=size)(h1:(len-1)*4096<size)(h0:0<len)(hlen:len<=32768)(hs:start+len<=v.nb)(hsl:size<=len*4096)(c:Clm ((List.range len).map (start + ·)) v.ow o')(hb:X.blk<100000)(d:RdX x bv e)
  (w:AN (v.res+(xR ib cb nx X (.slice (some ⟨cb,0,none⟩) size size) ev xv (CK v.I start size 0) AO +x)) h)
  (K:∀ h,(v.own o').OK x->AN ((v.own o').res+(xR ib cb nx {X with blk:=X.blk+len} (.slice (some ⟨cb,0,none⟩) size size) ev xv (CK v.I start size len) (AH (len:Nat))+x)) h->Q (.tuple #[]) h) :
  AMl (Pt v.vb) (Pt ib) bv (AB 5) (Pt nx) h Q:=by
 obtain⟨ba,bcc,hbv⟩:=d.len;have hl60:=ex.l60;have d3:RdX (v.res+(xR ib cb nx X (.slice (some ⟨cb,0,none⟩) size size) ev xv (CK v.I start size 0)  AO +x)) bv e:=d.bf.bf;have wn:∀ k,Ae false 1 (.pointer (some ⟨ib,0,none⟩)) h k=k (AH (X.num:Nat)):=fun k=>by
  rw[AC w,XN.g0];rfl
 have wx:∀ k,Ae false 1 (Pt nx) h k=k  AO:=fun k=>by
  rw[AC w];rfl
 have nf:∀ k:Vz->Prop,(BS (Pt ib) fun x161=>Aw 0 x161 k)=k (.pointer (some ⟨ib,0,none⟩)):=fun k=>by simp only[go_sem]
 have nn:∀ k:Vz->Prop,BS (Pt nx) k=k (Pt nx):=fun k=>by simp only[go_sem]
 unfold AMl AW;refine Cd (NF (p:=2) (n:=2) d3 w (by omega) (by omega) (by omega) ?_);refine Cd (NF (p:=4) (n:=2) d3 w (by omega) (by omega) (by omega) ?_);refine Cd (NF (p:=6) (n:=2) d3 w (by omega) (by omega) (by omega) ?_);rw[ex.ent,ex.most,ex.dep,Ea,Bq (by omega),nf,wn];refine Cd (NF (p:=0) (n:=2) d3 w (by omega) (by omega) (by omega) ?_);rw[ex.magic,wn];refine⟨rfl,?_⟩;have b1:(AQ .eql (AH ((62218:Nat):Int)) (AH 62218))=fun k=>k AI :=funext fun k=>by rw[AT];rfl
 have b2:(AQ .leq (AH ((1:Nat):Int)) (AH ((4:Nat):Int)))=fun k=>k  AI :=funext fun k=>by rw[BY];rfl
 have b3:(AQ .mul Bv  (AH ((4:Nat):Int)))=fun k=>k (AH 48):=funext fun k=>by rw[CZ];rfl
 have b4:(AQ .add Bv  (AH 48))=fun k=>k (AH 60):=funext fun k=>by rw[BT];rfl
 have b5:(AQ .leq (AH 60) (AH ((60:Nat):Int)))=fun k=>k  AI :=funext fun k=>by rw[BY];rfl
 have b6:(AQ .leq (AB ((0:Nat):Int)) (AB 5))=fun k=>k  AI :=funext fun k=>by rw[BY];rfl
 have b7:(AQ .eql (AB 5) (AB 5))=fun k=>k  AI :=funext fun k=>by rw[AT];rfl
 have b8:(AQ .neq (AH ((62218:Nat):Int)) (AH 62218))=fun k=>k AE :=funext fun k=>by rw[Ay];rfl
 have b9:(AQ .mul Bv  (AH ((1:Nat):Int)))=fun k=>k  Bv :=funext fun k=>by rw[CZ];rfl
 have b10:(AQ .add  Bv   Bv)=fun k=>k (AH 24):=funext fun k=>by rw[BT];rfl
 have b11:(AQ .gtr (AH 24) (AH ((60:Nat):Int)))=fun k=>k  AE :=funext fun k=>by rw[Ah];rfl
 have b12:(AQ .gtr (AB ((0:Nat):Int)) (AB 5))=fun k=>k  AE :=funext fun k=>by rw[Ah];rfl
 have b13:(AQ .neq (AB 5) (AB 5))=fun k=>k AE :=funext fun k=>by rw[Ay];rfl
 have len60:∀ k:Vz->Prop,(DM bv fun x47=>GO .u64 x47 k)=k (AH ((60:Nat):Int)):=fun k=>by rw[hbv,As,Ea,hl60];rfl
 simp only[b1];refine BH (EW ?_);simp only[b2,b3,b4,CV,len60,b5,nf,wn];refine BH (EW ?_);unfold ABQ AW;simp only[b6,b7,CV,Hi,nf,wn];refine BH (EW ?_);unfold ABP AW;refine Cd (NF (p:=0) (n:=2) d3 w (by omega) (by omega) (by omega) ?_);rw[ex.magic];simp only[b8,b9,b10,b11,b12,b13,Bt,GU,len60];unfold ABO ABR AW;refine Bj (fun m u h'=>(m=1/\u=AH 0/\h'=h)\/(m=0/\u=AH ((1:Nat):Int)/\(v.own o').OK x/\AN ((v.own o').res+(xR ib cb nx {X with blk:=X.blk+len} (.slice (some ⟨cb,0,none⟩) size size) ev xv (CK v.I start size len) (AH (len:Nat))+x)) h')) 1 (.inl ⟨rfl,rfl,rfl⟩) ?_;rintro rec m u h' hh hrec;rcases hh with⟨rfl,rfl,rfl⟩|⟨rfl,rfl,ok2,w⟩
 ·unfold SQ BL;have c1:(AQ .lss  AO  (AH ((1:Nat):Int)))=fun k=>k  AI:=funext fun k=>by rw[AR];rfl
  have c2:(AQ .mul  Bv   AO )=fun k=>k AO :=funext fun k=>by rw[CZ];rfl
  have c3:(AQ .add  Bv   AO )=fun k=>k (AH ((12:Nat):Int)):=funext fun k=>by rw[BT];rfl
  have c4:(AQ .add (AH 24)  AO )=fun k=>k (AH ((24:Nat):Int)):=funext fun k=>by rw[BT];rfl
  have c5:(AQ .geq (AH ((0:Nat):Int)) AO)=fun k=>k  AI:=funext fun k=>by rw[Bd];rfl
  have c6:(AQ .gtr (AB ((0:Nat):Int)) AF)=fun k=>k  AE :=funext fun k=>by rw[Ah];rfl
  have c7:(AQ .shl (AH ((0:Nat):Int)) Bw )=fun k=>k (AH ((0:Nat):Int)):=funext fun k=>by rw[Lr]
  have hstl:start<4294967296:=by rw[<-ex.st];exact Ar
  have c8:(AQ .or (AH (start:Nat)) (AH ((0:Nat):Int)))=fun k=>k (AH (start:Nat)):=funext fun k=>by rw[AD1 (by omega) (by omega),Nat.or_zero]
  have c9:(AQ .geq (AH (len:Nat))  Aq )=fun k=>k AI :=funext fun k=>by rw[Bd,H0 (by omega)]
  have c10:(AQ .leq (AH (len:Nat)) Bm )=fun k=>k  AI :=funext fun k=>by rw[BY,H0 (by omega)]
  have c11:(AQ .gtr (AH (len:Nat)) Bm )=fun k=>k  AE :=funext fun k=>by rw[Ah,J0 (by omega)]
  simp only[c1,c2,c3,c4,Ab];refine d.slice (i:=12) (j:=24) Bk Bk (by omega) (by omega) fun sv ds=>?_;rw[V3] at ds;have dsl:((e.drop 12).take 12).length=12:=by simp;omega
  have ds3:RdX (v.res+(xR ib cb nx X (.slice (some ⟨cb,0,none⟩) size size) ev xv (CK v.I start size 0)  AO +x)) sv ((e.drop 12).take 12):=ds.bf.bf;refine Cd (NF (p:=0) (n:=4) ds3 w (by omega) (by omega) (by omega) ?_);rw[ex.fr];simp only[nn,nf,wn,wx,c5];refine BH (EW ?_);simp only[c6,AJ];refine Cd (NF (p:=4) (n:=2) ds3 w (by omega) (by omega) (by omega) ?_);refine Cd (NF (p:=8) (n:=4) ds3 w (by omega) (by omega) (by omega) ?_);refine Cd (NF (p:=6) (n:=2) ds3 w (by omega) (by omega) (by omega) ?_);rw[ex.ln,ex.st,ex.hi];simp only[c7,c8,c9,c10,CV,nf,wn];refine BH (EW ?_);unfold ABN AW;simp only[c11,AJ];exact AOC (i:=0) ok hsz h1 h0 hlen (by omega) hs hsl c hb w fun h ok2 w=>hrec 0 _ _ (.inr ⟨rfl,rfl,ok2,w⟩) (by omega)
 ·unfold SQ BL;have c1:(AQ .lss (AH ((1:Nat):Int)) (AH ((1:Nat):Int)))=fun k=>k  AE:=funext fun k=>by rw[AR];rfl
  simp only[c1,AJ];exact K h' ok2 w
end
theorem LC:∀ {cs:List Vz} {l:List (Bs×Bs)} {i:Nat} {p:Bs×Bs},AtV x cs l->l[i]? = some p->∃ u,(cs.drop (i*2)).take 2=[str p.1,u]/\RdX x u p.2
 | _,_,0,p,.cons (v:=v) d a,e=>by
  simp only[L4,M2] at e;subst e;exact⟨v,rfl,d⟩
 | _,_,i+1,p,.cons d a,e=>by
  have:=LC a (i:=i) (p:=p) (by simpa using e);rw[show (i+1)*2=i*2+2 by omega];exact this
 | _,_,_,_,.nil,e=>by simp at e
def AtV.an {cs:List Vz}{l:List (Bs×Bs)}(a:AtV x cs l):AtV (x+y) cs l:=by rw[Res.comm];exact a.mono
end
theorem Ba (n:Nat):(BR n).length=2:=rfl
theorem BK (n:Nat):(Ag n).length=4:=rfl
def Cm {a r:Bs}{p q n:Nat}(h:p=a.length+q):leL (a++r) p n=leL r q n:=by
 subst h;unfold leL;rw[<-H5,U5]
def JO {a r:Bs}{p n:Nat}(h:p+n<=a.length):leL (a++r) p n=leL a p n:=by
 unfold leL;rw[I4 (by omega),L2 (by rw[J2];omega)]
def Ho {b:Bs}{k p n:Nat}:leL (b.drop k) p n=leL b (k+p) n:=by
 unfold leL;rw[H5]
def Hp {b:Bs}{k p n:Nat}(h:p+n<=k):leL (b.take k) p n=leL b p n:=by
 unfold leL;rw[V3,T6,V2 (by omega)]
theorem Qj:∀ n,MT (List.replicate n 0)=0
 | 0=>rfl
 | n+1=>by rw[List.replicate_succ,MT,Qj n];rfl
def Hq {m p n:Nat}:leL (List.replicate m 0) p n=0:=by
 unfold leL;rw[List.drop_replicate,S8,Qj]
def ADn (a:Nat):MT (BR a)=a%65536:=by
 simp only[BR,MT,T7];omega
def Uo (a:Nat):MT (Ag a)=a%4294967296:=by
 simp only[Ag,MT,T7];omega
def Gv {a p n:Nat}{r:Bs}:leL (BR a++r) (p+2) n=leL r p n:=Cm (by rw[Ba];omega)
def DG {a p n:Nat}{r:Bs}:leL (Ag a++r) (p+4) n=leL r p n:=Cm (by rw[BK];omega)
def Fx {a:Nat}{r:Bs}:leL (BR a++r) 0 2=a%65536:=by
 rw[JO (by rw[Ba];omega),<-ADn];rfl
def Eh {a:Nat}{r:Bs}:leL (Ag a++r) 0 4=a%4294967296:=by
 rw[JO (by rw[BK];omega),<-Uo];rfl
def Se {a:Nat}{r:Bs}(h:a<256):leL ([UInt8.ofNat a]++r) 0 1=a:=by
 show (UInt8.ofNat a).toNat+256*0=a;rw[T7];omega
theorem HK {c:UInt8}{p n:Nat}{r:Bs}:leL ([c]++r) (p+1) n=leL r p n:=rfl
def ADm {m p n:Nat}{r:Bs}:leL (List.replicate m 0++r) (p+m) n=leL r p n:=Cm (by rw[M0];omega)
theorem UZ:∀ (l:Bs) (hh:Nat),hh<4294967296->ER hh l<4294967296
 | a::b::c::d::l,hh,h=>by rw[ER];exact UZ l _ (Ju h (ID ..))
 | [],hh,h=>h
 | [a],hh,h=>Ju h (ID ..)
 | [a,b],hh,h=>Ju h (ID ..)
 | [a,b,c],hh,h=>Ju h (ID ..)
def ADe {nm v:Bs}:hashX nm v<4294967296:=UZ _ _ (LR _ _ (by decide))
def FZ {A X R:Bs}{a n:Nat}(b:a=A.length)(c:n=X.length):((A++(X++R)).drop a).take n=X:=by
 subst b c;rw[U5,L7]
abbrev zs (n:Nat):Bs:=List.replicate n 0
def BI {a r m:Bs}{p q:Nat}(h:p=a.length+q):setL (a++r) p m=a++setL r q m:=by
 subst h;unfold setL;rw[List.take_append,X2 (by omega),M4,H8,<-H5,U5];simp only[P0]
def Dr {b r m:Bs}(h:b.length=m.length):setL (b++r) 0 m=m++r:=by
 unfold setL;rw[K7,U2,U1,<-h,U5]
def FY (l:Bs):Bs:=l++zs (Bg l.length-l.length)
def Da (l:Bs):(FY l).length=Bg l.length:=by
 unfold FY zs;rw[C0,M0];unfold Bg;omega
def FG:Nat->List XA->Bs
 | _,[]=>[]
 | t,a::l=>[UInt8.ofNat a.nm.length]++([UInt8.ofNat a.ix]++(BR (t-Bg a.bs.length)++(zs 4++(Ag a.bs.length++(Ag (hashX a.nm a.bs)++(FY a.nm++FG (t-Bg a.bs.length) l))))))
def Ey:List XA->Bs
 | []=>[]
 | a::l=>Ey l++FY a.bs
theorem Gm:∀ (l:List XA) (t:Nat),(FG t l).length+(Ey l).length=needs l
 | [],_=>rfl
 | a::l,t=>by
  have:=Gm l (t-Bg a.bs.length);have e:needs (a::l)=a.need+needs l:=rfl;rw[e,FG,Ey];unfold XA.need;simp only[C0,Da,Ba,BK,M0,U3];omega
def Qr {P R:Bs}{o e t d:Nat}{a:XA}(c:P.length=o+e)(f:e+Bg a.bs.length<=t):JR (P++R) o e t d a=P++JR R 0 0 (t-e) (d+e) a:=by
 rw[FS,FS];have b:t-e-Bg a.bs.length+(d+e)=t-Bg a.bs.length+d:=by omega
 rw[b,BI (q:=0+0) (by omega),BI (q:=0+0+1) (by omega),BI (q:=0+0+2) (by omega),BI (q:=0+0+8) (by omega),BI (q:=0+0+12) (by omega),BI (q:=0+0+16) (by omega),
  BI (q:=0+(t-e-Bg a.bs.length)) (by omega)]
def ARH {S c d e Z f g i M j c1 c2 b s4 a nm bs:Bs}{p:Nat}(l1:c1.length=1)(l2:c2.length=1)(l3:b.length=2)(l4:s4.length=4)(n:a.length=4)(z1:c.length=1)(z2:d.length=1)(o:e.length=2)(s:Z.length=4)(t:f.length=4)(u:g.length=4)(v:i.length=nm.length)(w:j.length=bs.length)(l:p=16+nm.length+M.length) :
  setL (setL (setL (setL (setL (setL (setL (c++(d++(e++(Z++(f++(g++(i++(M++(j++S))))))))) 0 c1) 1 c2) 2 b) 8 s4) 12 a) 16 nm) p bs=c1++(c2++(b++(Z++(s4++(a++(nm++(M++(bs++S)))))))):=by
 subst l;rw[Dr (m:=c1) (by omega)];rw[BI (p:=1) (q:=0) (by omega),Dr (m:=c2) (by omega)];rw[BI (p:=2) (q:=1) (by omega),BI (p:=1) (q:=0) (by omega),Dr (m:=b) (by omega)];rw[BI (p:=8) (q:=7) (by omega),BI (p:=7) (q:=6) (by omega),BI (p:=6) (q:=4) (by omega),BI (p:=4) (q:=0) (by omega),Dr (m:=s4) (by omega)];rw[BI (p:=12) (q:=11) (by omega),BI (p:=11) (q:=10) (by omega),BI (p:=10) (q:=8) (by omega),BI (p:=8) (q:=4) (by omega),BI (p:=4) (q:=0) (by omega),Dr (m:=a) (by omega)];rw[BI (p:=16) (q:=15) (by omega),BI (p:=15) (q:=14) (by omega),BI (p:=14) (q:=12) (by omega),BI (p:=12) (q:=8) (by omega),BI (p:=8) (q:=4) (by omega),BI (p:=4) (q:=0) (by omega),Dr (m:=nm) (by omega)];rw[BI (q:=15+nm.length+M.length) (by omega),BI (q:=14+nm.length+M.length) (by omega),BI (q:=12+nm.length+M.length) (by omega),BI (q:=8+nm.length+M.length) (by omega),BI (q:=4+nm.length+M.length) (by omega),BI (q:=nm.length+M.length) (by omega),
  BI (q:=M.length) (by omega),BI (q:=0) (by omega),Dr (m:=bs) (by omega)]
theorem AD7 {S:Bs}{n d:Nat}{a:XA}(h:a.need<=n):JR (zs n++S) 0 0 n d a=[UInt8.ofNat a.nm.length]++([UInt8.ofNat a.ix]++(BR (n-Bg a.bs.length+d)++(zs 4++(Ag a.bs.length++(Ag (hashX a.nm a.bs)++(FY a.nm++(zs (n-a.need)++(FY a.bs++S)))))))):=by
 unfold XA.need at *;obtain⟨k,e⟩:∃ k,n=16+Bg a.nm.length+k+Bg a.bs.length:=⟨n-(16+Bg a.nm.length+Bg a.bs.length),by omega⟩;have u1:a.nm.length<=Bg a.nm.length:=by unfold Bg;omega
 have u2:a.bs.length<=Bg a.bs.length:=by unfold Bg;omega
 have e1:zs n=zs 1++(zs 1++(zs 2++(zs 4++(zs 4++(zs 4++(zs a.nm.length++(zs (Bg a.nm.length-a.nm.length)++(zs k++(zs a.bs.length++zs (Bg a.bs.length-a.bs.length)))))))))):=by
  simp only[zs,List.replicate_append_replicate];congr 1;omega
 have e2:n-(Bg a.nm.length+16+Bg a.bs.length)=k:=by omega
 have l1:∀ c:UInt8,([c]:Bs).length=1:=fun _=>rfl;have lz:∀ m,(zs m).length=m:=fun m=>M0;rw[FS,e1,e2];have b:zs 1++(zs 1++(zs 2++(zs 4++(zs 4++(zs 4++(zs a.nm.length++(zs (Bg a.nm.length-a.nm.length)++(zs k++(zs a.bs.length++zs (Bg a.bs.length-a.bs.length))))))))))++S=zs 1++(zs 1++(zs 2++(zs 4++(zs 4++(zs 4++(zs a.nm.length++((zs (Bg a.nm.length-a.nm.length)++zs k)++(zs a.bs.length++(zs (Bg a.bs.length-a.bs.length)++S))))))))):=by simp only[P0]
 rw[b];simp only[U1];rw[ARH (l1 _) (l1 _) (Ba _) (BK _) (BK _) (lz _) (lz _) (lz _) (lz _) (lz _) (lz _) (lz _) (lz _) (by rw[C0,lz,lz];omega)];unfold FY;simp only[P0]
theorem Qu:∀ (l:List XA) (P S:Bs) (o e t n:Nat),P.length=o+e->t=e+n->needs l<=n->Ej o 0 l e t (P++(zs n++S))=P++(FG t l++(zs (n-needs l)++(Ey l++S)))
 | [],P,S,o,e,t,n,_,_,_=>rfl
 | a::l,P,S,o,e,t,n,hP,ht,hn=>by
  have b:needs (a::l)=a.need+needs l:=rfl;have c:a.need=Bg a.nm.length+16+Bg a.bs.length:=rfl;rw[Ej,Qr hP (by omega),show t-e=n by omega,AD7 (by omega)];have e1:n-Bg a.bs.length+(0+e)=t-Bg a.bs.length:=by omega
  rw[e1];have e2:∀ X:Bs,P++([UInt8.ofNat a.nm.length]++([UInt8.ofNat a.ix]++(BR (t-Bg a.bs.length)++(zs 4++(Ag a.bs.length++(Ag (hashX a.nm a.bs)++(FY a.nm++X)))))))=(P++([UInt8.ofNat a.nm.length]++([UInt8.ofNat a.ix]++(BR (t-Bg a.bs.length)++(zs 4++(Ag a.bs.length++(Ag (hashX a.nm a.bs)++FY a.nm)))))))++X:=fun X=>by simp only[P0]
  rw[e2,Qu l _ _ o _ _ (n-a.need) ?_ (by omega) (by omega),FG,Ey,show n-a.need-needs l=n-needs (a::l) by omega]
  ·simp only[P0]
  ·simp only[C0,Da,Ba,BK,M0,U3];omega
def La {l:List XA}(h:needs l<=96):NM l=Ag 3925999616++(FG 100 l++(zs (100-needs l)++Ey l)):=by
 unfold NM;have e:setL (List.replicate 104 (0:UInt8)) 0 (Ag 3925999616)=Ag 3925999616++(zs 100++[]):=by
  have:(List.replicate 104 (0:UInt8))=zs 4++(zs 100++[]):=by simp only[X0,zs,List.replicate_append_replicate]
  rw[this,Dr (m:=Ag 3925999616) (b:=zs 4) (by decide)]
 rw[e,Qu l _ _ 4 0 100 100 rfl rfl (by omega),X0]
theorem AGi {a b:XA}{l:List XA}(e:a.nm=b.nm)(d:a.bs.length=b.bs.length)(h:needs (a::l)<=96):JR (NM (a::l)) 4 0 100 0 b=NM (b::l):=by
 have i:needs (a::l)=a.need+needs l:=rfl;have f:needs (b::l)=b.need+needs l:=rfl;have g:a.need=b.need:=by unfold XA.need;rw[e,d]
 have j:b.need=Bg b.nm.length+16+Bg b.bs.length:=rfl;have ev:=Gm l (100-Bg b.bs.length);have l1:∀ c:UInt8,([c]:Bs).length=1:=fun _=>rfl;have lz:∀ m,(zs m).length=m:=fun m=>M0;rw[La h,La (by omega),Qr (by rw[BK]) (by omega)];congr 1;have e0:needs (a::l)=needs (b::l):=by omega
 rw[e0,FS,FG,FG,Ey,Ey,d];simp only[U1,Z4,C8];unfold FY;rw[e,d];simp only[P0];have e1:∀ X:Bs,zs (Bg b.nm.length-b.nm.length)++(FG (100-Bg b.bs.length) l++(zs (100-needs (b::l))++(Ey l++X)))=(zs (Bg b.nm.length-b.nm.length)++(FG (100-Bg b.bs.length) l++(zs (100-needs (b::l))++Ey l)))++X:=fun X=>by simp only[P0]
 rw[e1,e1];refine ARH (l1 _) (l1 _) (Ba _) (BK _) (BK _) (l1 _) (l1 _) (Ba _) (lz _) (BK _) (BK _) rfl d ?_;simp only[C0,lz];have u1:b.nm.length<=Bg b.nm.length:=by unfold Bg;omega
 omega
def Oi (a:XA):Bs×Bs:=((pfxL a.ix).getD []++a.nm,a.bs)
theorem Um {body:Bs}:∀ (l:List XA) (P S:Bs) (e t m low:Nat),body=P++(FG t l++(zs m++(Ey l++S)))->P.length=e->body.length=100->t+S.length=100->S.length%4=0->4<=m->t<=low->(∀ a∈l,a.ix<256/\(pfxL a.ix).isSome=true)->AttrR body body true e low (l.map Oi)
 | [],P,S,e,t,m,low,g,hP,hl,ht,h4,hm,hlow,_=>by
  have f:=J3 List.length g;simp only[C0,M0,FG,Ey,C4] at f;refine .stop (by omega) ?_ (by omega);rw[g,Cm (q:=0) (by omega),FG,U2,JO (by rw[M0];omega),Hq]
 | a::l,P,S,e,t,m,low,g,hP,hl,ht,h4,hm,hlow,hx=>by
  obtain⟨s,u⟩:=hx a T0;obtain⟨p,w⟩:=Option.isSome_iff_exists.1 u;have ev:=Gm l (t-Bg a.bs.length);have hu:a.need=Bg a.nm.length+16+Bg a.bs.length:=rfl;have u1:a.nm.length<=Bg a.nm.length/\Bg a.nm.length<=a.nm.length+3/\Bg a.nm.length%4=0:=by unfold Bg;omega
  have u2:a.bs.length<=Bg a.bs.length/\Bg a.bs.length<=a.bs.length+3/\Bg a.bs.length%4=0:=by unfold Bg;omega
  have l1:∀ c:UInt8,([c]:Bs).length=1:=fun _=>rfl;have lz:∀ m,(zs m).length=m:=fun m=>M0;obtain⟨t',i⟩:∃ t',t'=t-Bg a.bs.length:=⟨_,rfl⟩;rw[<-i] at ev;obtain⟨R,j⟩:∃ R,R=FG t' l++(zs m++(Ey l++(FY a.bs++S))):=⟨_,rfl⟩;have d:body=P++([UInt8.ofNat a.nm.length]++([UInt8.ofNat a.ix]++(BR t'++(zs 4++(Ag a.bs.length++(Ag (hashX a.nm a.bs)++(FY a.nm++R))))))):=by
   rw[g,j,FG,Ey,<-i];simp only[P0]
  have f:=J3 List.length d;simp only[C0,Da,Ba,BK,lz,l1] at f;have o:=J3 List.length j;simp only[C0,Da,lz] at o;have k0:leL body e 1=a.nm.length:=by
   rw[d,Cm (q:=0) (by omega)];exact Se (by omega)
  have k1:leL body (e+1) 1=a.ix:=by
   rw[d,Cm (q:=1) (by omega),HK (p:=0)];exact Se s
  have k2:leL body (e+2) 2=t':=by
   rw[d,Cm (q:=2) (by omega),HK (p:=1),HK (p:=0),Fx];omega
  have k4:leL body (e+4) 4=0:=by
   rw[d,Cm (q:=4) (by omega),HK (p:=3),HK (p:=2),Gv (p:=0),JO (by rw[lz];omega),Hq]
  have n:leL body (e+8) 4=a.bs.length:=by
   rw[d,Cm (q:=8) (by omega),HK (p:=7),HK (p:=6),Gv (p:=4),ADm (p:=0) (m:=4),Eh];omega
  have v:leL body (e+12) 4=hashX a.nm a.bs:=by
   rw[d,Cm (q:=12) (by omega),HK (p:=11),HK (p:=10),Gv (p:=8),ADm (p:=4) (m:=4),DG (p:=0),Eh,C2 ADe]
  have kn:(body.drop (e+16)).take a.nm.length=a.nm:=by
   have:body=(P++([UInt8.ofNat a.nm.length]++([UInt8.ofNat a.ix]++(BR t'++(zs 4++(Ag a.bs.length++Ag (hashX a.nm a.bs)))))))++(a.nm++(zs (Bg a.nm.length-a.nm.length)++R)):=by
    rw[d];unfold FY;simp only[P0]
   rw[this];exact FZ (by simp only[C0,Ba,BK,lz,l1];omega) rfl
  have kv:(body.drop t').take a.bs.length=a.bs:=by
   have:body=(P++([UInt8.ofNat a.nm.length]++([UInt8.ofNat a.ix]++(BR t'++(zs 4++(Ag a.bs.length++(Ag (hashX a.nm a.bs)++(FY a.nm++(FG t' l++(zs m++Ey l))))))))))++(a.bs++(zs (Bg a.bs.length-a.bs.length)++S)):=by
    rw[d,j];unfold FY;simp only[P0]
   rw[this];refine FZ ?_ rfl;simp only[C0,Da,Ba,BK,lz,l1];omega
  have h0:leL body e 4≠0:=by
   rw[d,Cm (q:=0) (by omega)];intro h;have:leL ([UInt8.ofNat a.nm.length]++([UInt8.ofNat a.ix]++(BR t'++(zs 4++(Ag a.bs.length++(Ag (hashX a.nm a.bs)++(FY a.nm++R))))))) 0 4=MT [UInt8.ofNat a.nm.length,UInt8.ofNat a.ix,UInt8.ofNat t',UInt8.ofNat (t'/256)]:=rfl;rw[this] at h;simp only[MT,T7] at h;omega
  have ih:=Um (body:=body) l (P++([UInt8.ofNat a.nm.length]++([UInt8.ofNat a.ix]++(BR t'++(zs 4++(Ag a.bs.length++(Ag (hashX a.nm a.bs)++FY a.nm))))))) (FY a.bs++S) (e+(16+a.nm.length+3)/4*4) t' m (if 0<a.bs.length then min low t' else low) (by rw[d,j];simp only[P0])
   (by simp only[C0,Da,Ba,BK,lz,l1];unfold Bg;omega) hl (by rw[C0,Da];omega) (by rw[C0,Da];omega) hm (by split<;>omega) fun b g=>hx b (U0 _ g)
  have st:=AttrR.step (b:=body) (all:=body) (ins:=true) (at':=e) (low:=low) (p:=p) (rest:=l.map Oi) h0 (by rw[k0,hl];omega) k4 (by rw[k1];exact w) (by rw[k2,n,hl];omega) (.inr (by rw[k0,kn,v,k2,n,kv])) (by rw[k2];intro _;omega) (by rw[k0,k2,n];exact ih);rw[k0,kn,k2,n,kv] at st;have hf:Oi a=(p++a.nm,a.bs):=by unfold Oi;rw[w];rfl
  rw[Q1,hf];exact st
end Go.Proofs.YtollddkkdgoonaaGreatDoor
