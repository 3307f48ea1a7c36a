/- A step. No condition. -/
import Derived.Test.YtollddkkdgoonaaGreatDoorM2
import Derived.Laws.Strings
import Derived.Shelf.Small.Strs
import Derived.Shelf.Strings.Search1
import Derived.Test.YtollddkkdgoonaaGreatDoorProg
namespace Go.Proofs.YtollddkkdgoonaaGreatDoor
open Go
set_option linter.unusedVariables false
set_option linter.unusedSimpArgs false
set_option linter.defProp false
set_option maxRecDepth 100000
variable {h:H} {k:Value->Prop} {kt Q:Kt} {x y z r:Res}
def BR (n:Nat):Bs:=[UInt8.ofNat n,UInt8.ofNat (n/256)]
def Ag (n:Nat):Bs:=[UInt8.ofNat n,UInt8.ofNat (n/256),UInt8.ofNat (n/65536),UInt8.ofNat (n/16777216)]
@[go_sem low] def ARZ {m:Nat}:IntKind.u8.wrap (m:Int)=((m%256:Nat):Int):=by unfold IntKind.wrap;simp[IntKind.signed,IntKind.bits]
@[go_sem low] def AOf {m:Nat}:IntKind.u16.wrap (m:Int)=((m%65536:Nat):Int):=by unfold IntKind.wrap;simp[IntKind.signed,IntKind.bits]
@[go_sem low] def qi {m:Nat}:IntKind.u32.wrap (m:Int)=((m%4294967296:Nat):Int):=by unfold IntKind.wrap;simp[IntKind.signed,IntKind.bits]
@[go_sem low] def qj {m:Nat}:IntKind.u64.wrap (m:Int)=((m%18446744073709551616:Nat):Int):=by unfold IntKind.wrap;simp[IntKind.signed,IntKind.bits]
theorem GC {kk k':Iq}{a s:Nat}:AQ .shr (.int kk (a:Int)) (.int k' (no_index (OfNat.ofNat s:Int))) k=k (.int kk ((a/2^(min s kk.bits):Nat):Int)):=by
 have d:(OfNat.ofNat s:Int)=(s:Int):=rfl;rw[d];have c:DO .shr (.int kk (a:Int)) (.int k' (s:Int))=some (.int kk ((a/2^(min s kk.bits):Nat):Int)):=by
  unfold DO;simp only;rw[F0 (by omega),J5];congr 2;have:(2:Int)^(min s kk.bits)=((2^(min s kk.bits):Nat):Int):=by simp[Int.natCast_pow]
  rw[this,<-Int.ofNat_fdiv]
 exact propext ⟨fun⟨v,h2,b⟩=>by rw[c] at h2;cases h2;exact b,fun b=>⟨_,c,b⟩⟩
@[go_sem] def ATW {kk k':Iq}{a:Nat}:AQ .shr (.int kk (a:Int)) (.int k' 8) k=k (.int kk ((a/256:Nat):Int)):=by
 have:=GC (kk:=kk) (k':=k') (a:=a) (s:=8) (k:=k);cases kk<;>exact this
@[go_sem] def ARN {k':Iq}{a:Nat}:AQ .shr (AM (a:Int)) (.int k' 16) k=k (AM ((a/65536:Nat):Int)):=GC (s:=16)
@[go_sem] def ARO {k':Iq}{a:Nat}:AQ .shr (AM (a:Int)) (.int k' 24) k=k (AM ((a/16777216:Nat):Int)):=GC (s:=24)
@[go_sem] def ARQ {k':Iq}{a:Nat}:AQ .shr (AH (a:Int)) (.int k' 32) k=k (AH ((a/4294967296:Nat):Int)):=GC (s:=32)
def QK {m:Nat}:Value.int .u8 ((m%256:Nat):Int)=bc (UInt8.ofNat m):=by simp[bc]
def VY {v:Vz}{bs:Bs}{n:Nat}(b:BufV v bs r)(w:AN (r+x) h)(a:bs.length+4<=140737488355328)(K:∀ v r h,BufV v (bs++Ag n) r->AN (r+x) h->Q v h):AMH v (AM n) h Q:=by
 unfold AMH AW;simp only[go_sem];refine Dh (l:=Ag n) w (by decide) ?_ rfl fun b1 h w=>?_
 ·simp only[QK];rfl
 ·rw[Res.left_comm] at w;exact Bu b w (Yv w rfl) (by simpa[Ag] using a) fun v r h b w=>K v r h b (by rw[Res.left_comm] at w;exact w.right)
@[go_sem] def wu8 {m:Nat}(a:m<256):IntKind.u8.wrap (m:Int)=m:=lr (by omega) (by omega)
@[go_sem] def AE0 {m:Nat}(a:m<65536):IntKind.u16.wrap (m:Int)=m:=AEx (by omega) (by omega)
@[go_sem] def Lz {m:Nat}(a:m<4294967296):IntKind.u32.wrap (m:Int)=m:=AEy (by omega) (by omega)
@[go_sem] def Dn {m:Nat}(a:m<18446744073709551616):IntKind.u64.wrap (m:Int)=m:=AEz (by omega) (by omega)
@[go_sem] def Bq {m:Nat}(a:m<9223372036854775808):IntKind.i64.wrap (m:Int)=m:=ED (by omega) (by omega)
@[go_sem] def IJ {kk:Iq}{a b:Nat}:AQ .add (.int kk (a:Int)) (.int kk (b:Int)) k=k (.int kk (kk.wrap ((a+b:Nat):Int))):=by rw[BT];rfl
@[go_sem] def Az {kk:Iq}{a n:Nat}:AQ .add (.int kk (a:Int)) (.int kk (no_index (OfNat.ofNat n:Int))) k=k (.int kk (kk.wrap ((a+n:Nat):Int))):=by rw[BT];rfl
@[go_sem] def TF {kk:Iq}{a b:Nat}(c:b<=a):AQ .sub (.int kk (a:Int)) (.int kk (b:Int)) k=k (.int kk (kk.wrap ((a-b:Nat):Int))):=by rw[Ci,Int.ofNat_sub c]
@[go_sem] def ZD {kk:Iq}{a n:Nat}(c:(OfNat.ofNat n:Int)<=(a:Int)):AQ .sub (.int kk (a:Int)) (.int kk (no_index (OfNat.ofNat n:Int))) k=k (.int kk (kk.wrap ((a-n:Nat):Int))):=by
 have b:n<=a:=Int.ofNat_le.1 c;rw[Ci,Int.ofNat_sub b];rfl
@[go_sem] def Yp {kk:Iq}{a b:Nat}:AQ .mul (.int kk (a:Int)) (.int kk (b:Int)) k=k (.int kk (kk.wrap ((a*b:Nat):Int))):=by rw[CZ];rfl
@[go_sem] def Sk {kk:Iq}{a n:Nat}:AQ .mul (.int kk (a:Int)) (.int kk (no_index (OfNat.ofNat n:Int))) k=k (.int kk (kk.wrap ((a*n:Nat):Int))):=by rw[CZ];rfl
@[go_sem] def Yt {kk:Iq}{a b:Nat}(c:0<b):AQ .quo (.int kk (a:Int)) (.int kk (b:Int)) k=k (.int kk (kk.wrap ((a/b:Nat):Int))):=by
 rw[NU (by omega),<-Int.ofNat_tdiv]
@[go_sem] def St {kk:Iq}{a n:Nat}(b:(0:Int)<OfNat.ofNat n):AQ .quo (.int kk (a:Int)) (.int kk (no_index (OfNat.ofNat n:Int))) k=k (.int kk (kk.wrap ((a/n:Nat):Int))):=Yt (S7.1 b)
@[go_sem] def ANe {kk:Iq}{a b:Nat}(c:0<b):AQ .rem (.int kk (a:Int)) (.int kk (b:Int)) k=k (.int kk ((a%b:Nat):Int)):=by
 rw[AFG (by omega),Int.ofNat_tmod]
@[go_sem] def Su {kk:Iq}{a n:Nat}(b:(0:Int)<OfNat.ofNat n):AQ .rem (.int kk (a:Int)) (.int kk (no_index (OfNat.ofNat n:Int))) k=k (.int kk ((a%n:Nat):Int)):=ANe (S7.1 b)
def RdX (x:Res)(v:Vz)(bs:Bs):Prop:=
 (∃ a c,v=.slice a 0 c/\bs=[])\/∃ b o c all T fz y,v=.slice (some ⟨b,o,none⟩) bs.length c/\x=pts b (.cells ⟨all⟩ T fz)+y/\o+bs.length<=all.length/\(all.drop o).take bs.length=bs.map bc/\bs.length<=c
def RdX.rd {v:Vz}{bs:Bs}(d:RdX x v bs)(w:AN x h):Rd h v bs:=by
 rcases d with d|⟨b,o,c,all,T,fz,y,a,e,f,g,_⟩
 ·exact .inl d
 ·subst e;exact .inr ⟨b,o,c,all,T,fz,a,w.left.one,f,g⟩
def RdX.an {v:Vz}{bs:Bs}(d:RdX x v bs):RdX (x+y) v bs:=by
 rcases d with d|⟨b,o,c,all,T,fz,z,a,e,f,g⟩
 ·exact .inl d
 ·exact .inr ⟨b,o,c,all,T,fz,z+y,a,by rw[e,Res.assoc],f,g⟩
def RdX.bf {v:Vz}{bs:Bs}(d:RdX x v bs):RdX (y+x) v bs:=by rw[Res.comm];exact d.an
def BufV.rdX {v:Vz}{bs:Bs}(b:BufV v bs r):RdX r v bs:=by
 cases b with
 | nil=>exact .inl ⟨none,0,rfl,rfl⟩
 | own a=>
  rename_i b n all;exact .inr ⟨b,0,all.length,all.map bc,5,(0,0),0,by simp[V2 a],(Res.add_zero _).symm,by simp;omega,by simp,by simp;omega⟩
def RdX.ofBuf {b n:Nat}{l:Bs}{T:Tj}{fz:Nat×Nat}(a:l.length=n):RdX (pts b (.cells (bcs l) T fz)+y) (.slice (some ⟨b,0,none⟩) n n) l:=
 .inr ⟨b,0,n,l.map bc,T,fz,y,by rw[a],rfl,by simp,by rw[I5,X2 (by simp)],by omega⟩
def RdX.len {v:Vz}{bs:Bs}(d:RdX x v bs):∃ a c,v=.slice a bs.length c:=by
 rcases d with⟨a,c,e,f⟩|⟨b,o,c,all,T,fz,y,e,_⟩
 ·subst f;exact⟨_,c,e⟩
 ·exact⟨_,c,e⟩
def BufV.len {v:Vz}{bs:Bs}(b:BufV v bs r):∃ a c,v=.slice a bs.length c:=b.rdX.len
@[go_sem] def JX {kk:Iq}{b o n c l:Nat}(e:l<=n)(f:n<=c)(g:l≠c):Cf (.slice 1) (.slice (some ⟨b,o,none⟩) n c) (some (.int kk (l:Int))) none k=k (.slice (some ⟨b,o+l,none⟩) (n-l) (c-l)):=by
 have d:Bi (.slice 1) (.slice (some ⟨b,o,none⟩) n c) (some (.int kk (l:Int))) none=some (.slice (some ⟨b,o+l,none⟩) (n-l) (c-l)):=by
  have i:Bb 0 (some (.int kk (l:Int)))=some l:=by simp[Bb]
  unfold Bi;rw[i];simp only[Bb];rw[D0 ⟨e,f⟩,F0 (fun h=>g h.symm),M5,N5,Cb]
 exact propext ⟨fun⟨v,a,b⟩=>by rw[d] at a;cases a;exact b,fun a=>⟨_,d,a⟩⟩
def Ep {l m:Bs}{o i:Nat}(h:o+m.length<=l.length):(setL l o m)[i]? = if i<o then l[i]? else if i<o+m.length then m[i-o]? else l[i]?:=by
 unfold setL
 grind
def Mc {all news:Bs}{pos n:Nat}(h:pos+news.length<=n)(a:n<=all.length):(setL all pos news).take n=setL (all.take n) pos news:=by
 apply O4;intro i;rw[I2,Ep (by omega),Ep (by simp;omega)]
 grind
def Hc {b off n c:Nat}{all src:Bs}{s:Vz}{T:Tj}{kt:Kt}(w:AN (pts b (.cells (bcs all) T (0,0))+x) h)(d:RdX x s src)(a:off+src.length<=all.length)(e:src.length<=n)
  (K:∀ h,AN (pts b (.cells (bcs (setL all off src)) T (0,0))+x) h->kt (AB (src.length:Nat)) h):JB 1 (.slice (some ⟨b,off,none⟩) n c) s h kt:=by
 have rd:=d.rd w.right;refine⟨_,n,c,src.length,bcs src,rfl,rd.srcLen,?_,.inr ⟨_,bcs all,T,rfl,rfl,w.left.one,by rw[DX,DX];exact a,LD _,?_⟩⟩
 ·rw[V2 e];have:=rd.src src.length (I0 _)
  rwa [L1] at this
 ·rw[V2 e];simp only;rw[Ds a];exact K _ w.set
def putL (B:Bs)(pos:Nat)(news:Bs):Bs:=setL (B++List.replicate (pos+news.length-B.length) 0) pos news
def Fa {B news:Bs}{pos:Nat}:(putL B pos news).length=max B.length (pos+news.length):=by
 unfold putL;rw[Ad (by simp;omega)];simp;omega
def Ei {kl c:Iq}{n:Nat}(w:AN x h)(g:n<=140737488355328)(K:∀ b h,AN (buf b (List.replicate n 0)+x) h->kt (.slice (some ⟨b,0,none⟩) n n) h) :
  Aa (Am TP 5) 1 1 5 (.int kl (n:Int)) (.int c (n:Int)) h kt:=
 ⟨kl,c,n,n,Ax,rfl,rfl,Vt,by omega,by omega,by omega,by omega,fun b d e f a=>by
  rw[M5,Cv rfl] at a;have:(⟨List.replicate (n:Int).toNat BE⟩:Array Vz)=bcs (List.replicate n 0):=by rw[FP];simp
  rw[this] at a;simpa using K b d (w.new e f a)⟩
def Aj {b o:Nat}{c:Array Vz}{T:Tj}{fz:Nat×Nat}{v:Vz}(w:AN x h)[Be b x (.cells c T fz)](a:c[o]? = some v):Ae false 1 (.pointer (some ⟨b,o,none⟩)) h fun u=>u=v:=by
 rw[AC w,a];rfl
inductive Vec (T:Tj) (sz:Nat):Vz->Nat->List Vz->Res->Prop
 | nil:Vec T sz  cst__slice_none_0_0  0 [] 0
 | own {b n c:Nat} {all:List Vz}:n<=c->all.length=c*sz->Vec T sz (.slice (some ⟨b,0,none⟩) n c) n (all.take (n*sz)) (pts b (.cells ⟨all⟩ T (0,0)))
def Vec.own' {T:Tj}{sz b n c:Nat}{all vs:List Vz}(d:n<=c)(a:all.length=c*sz)(e:all.take (n*sz)=vs):Vec T sz (.slice (some ⟨b,0,none⟩) n c) n vs (pts b (.cells ⟨all⟩ T (0,0))):=by
 subst e;exact .own d a
def Vec.len {T:Tj}{sz n:Nat}{v:Vz}{vs:List Vz}(d:Vec T sz v n vs r):(∃ a c,v=.slice a n c)/\vs.length=n*sz:=by
 cases d with
 | nil=>exact⟨⟨_,_,rfl⟩,by simp⟩
 | own e b=>
  refine⟨⟨_,_,rfl⟩,?_⟩;rw[W1,b,V2 (H3 sz e)]
def Vec.src {T:Tj}{sz n:Nat}{v:Vz}{vs:List Vz}(d:Vec T sz v n vs r)(w:AN (r+x) h):By sz n h v=some ⟨vs⟩:=by
 cases d with
 | nil=>rfl
 | own a b=>
  unfold By;simp only[w.left.one,Z5,K3,if_false];have:=H3 sz a;rw[D0 (by simp;omega)];congr 1;apply P4;simp[I3]
def Mj {z:Array Vz}{n:Nat}:(Builtin.zeroCells z n).size=n*z.size:=by simp[Builtin.zeroCells]
def Ib {all news:List Vz}{o:Nat}(a:o+news.length<=all.length):(Av ⟨all⟩ o news).toList.take (o+news.length)=all.take o++news:=by
 apply O4;intro i;have:=Er news ⟨all⟩ o i (by simpa using a);rw[I2];rw[<-Q7] at this;rw[this]
 grind
def LV {T:Tj}{sz j n m:Nat}{z:Option Vz}{zv v:Vz}{vs news:List Vz}(d:Vec T sz v n vs r)(w:AN (r+x) h)(hz:z=some zv)(a:zv.cells.size=sz)
  (i:(n+m)*j<=140737488355328) (l:n+m<=140737488355328) (q:news.all Value.oneCell'=true) (f:news.length=m*sz)
  (K:∀ v r h,Vec T sz v (n+m) (vs++news) r->AN (r+x) h->kt v h):Mp T z sz j v m ⟨news⟩ h kt:=by
 have s:=d.src w;cases d with
 | nil=>
  refine⟨none,0,0,zv,#[],rfl,hz,a,i,l,rfl,fun t=>?_,fun _ b u h' g ah e i ho=>?_⟩
  ·have ai:m=0:=by omega
   subst ai;have:news=[]:=X4.1 (by simpa using f);subst this;exact .inl ⟨rfl,rfl,K _ _ h .nil w⟩
  ·refine K _ _ h' (.own' (all:=news++(Builtin.zeroCells zv.cells (u-(0+m))).toList) g ?_ ?_) ((w.right.new e i ho).cast ?_)
   ·simp only[C0,C7,Mj,a,f];rw[<-V5];congr 1;omega
   ·rw[L2 (by rw[f];simp),X2 (by rw[f];simp)];rfl
   ·congr 2;simp only[Obj.cells.injEq,and_true];apply P4;simp
 | own hn g=>
  rename_i b c all;have o:=H3 sz hn;refine⟨_,n,c,zv,_,rfl,hz,a,i,l,s,fun t=>?_,fun _ b' u h' ae ah e i ho=>?_⟩
  ·have p:n*sz+news.length<=all.length:=by
    rw[f,g,<-V5];exact H3 sz t
   refine .inr ⟨_,_,T,rfl,rfl,w.left.one,?_,q,?_⟩
   ·simp only[U1,O2,g];exact H3 sz t
   ·simp only[U1];have aj:(Av ⟨all⟩ (n*sz) news).toList.length=c*sz:=by rw[C7,HO];simpa using g
    have:=K _ _ _ (.own' (b:=b) (T:=T) (sz:=sz) (n:=n+m) (c:=c) (all:=(Av ⟨all⟩ (n*sz) news).toList) t aj (by
     rw[V5,<-f];exact Ib p)) w.set
    exact this
  ·refine K _ _ h' (.own' (all:=all.take (n*sz)++news++(Builtin.zeroCells zv.cells (u-(n+m))).toList) ae ?_ ?_) ((w.right.new e i ho).cast ?_)
   ·simp only[C0,W1,C7,Mj,a,f,g,V2 o];rw[<-V5,<-V5];congr 1;omega
   ·have:(all.take (n*sz)++news).length=(n+m)*sz:=by
     simp only[C0,W1,g,V2 o,f,<-V5]
    rw[L2 (by omega),X2 (by omega)]
   ·congr 2;simp only[Obj.cells.injEq,and_true];apply P4;simp
def DC {T:Tj}{a n:Nat}{z:Option Vz}{zv v e:Vz}{vs:List Vz}(d:Vec T 1 v n vs r)(w:AN (r+x) h)(j:z=some zv)(c:zv.cells=#[zv])(o:e.cells=#[e])(p:Value.oneCell' e=true)
  (m:(n+1)*a<=140737488355328) (g:n+1<=140737488355328) (K:∀ v r h,Vec T 1 v (n+1) (vs++[e]) r->AN (r+x) h->kt v h) :
  AK (.arr 1) T z 1 1 [(0,e)] h fun s h=>Ac T z 1 a v s h kt:=by
 refine⟨zv,⟨[e]⟩,j,by omega,?_,fun b q ex f i=>?_⟩
 ·rw[F0 (by omega),Cv c];refine EE _ _ _ ?_;unfold Du;simp[DB,o,Du,IW]
 ·have l:=w.new ex f i;refine⟨1,⟨[e]⟩,rfl,?_,LV d (l.cast (Res.left_comm _ _ _)) j (by rw[c];rfl) m g (by simp[p]) rfl fun v r h d w=>K v r h d ?_⟩
  ·unfold By;simp only[l.left.one];simp
  ·exact AN.left (y:=pts b (.cells ⟨[e]⟩ T (0,0))) (w.cast (by ac_rfl))
abbrev str (l:Bs):Vz:=.string ⟨l.toArray⟩
def EC (l:Bs):(⟨l.toArray⟩:ByteArray).size=l.length:=by simp[ByteArray.size]
@[go_sem high] def DH {l:Bs}:PB (str l) k=k (AB (l.length:Nat)):=by rw[APW,EC]
def Gn (l:Bs)(i j:Nat):(⟨l.toArray⟩:ByteArray).extract i j=⟨((l.take j).drop i).toArray⟩:=by
 apply ByteArray.ext;rw[ByteArray.data_extract];apply P4;simp[I3,V3]
def DY {kk:Iq}{n d:Nat}:Bb d (some (.int kk (n:Int)))=some n:=by simp[Bb]
@[go_sem] def TD {kk c:Iq}{l:Bs}{i j:Nat}(e:i<=j)(f:j<=l.length):Cf .str (str l) (some (.int kk (i:Int))) (some (.int c (j:Int))) k=k (str ((l.take j).drop i)):=by
 have d:Bi .str (str l) (some (.int kk (i:Int))) (some (.int c (j:Int)))=some (str ((l.take j).drop i)):=by
  unfold Bi;simp only[DY];rw[EC,D0 ⟨e,f⟩,Gn]
 exact propext ⟨fun⟨v,a,b⟩=>by rw[d] at a;cases a;exact b,fun a=>⟨_,d,a⟩⟩
@[go_sem] def NH {c:Iq}{l:Bs}{j:Nat}(e:j<=l.length):Cf .str (str l) none (some (.int c (j:Int))) k=k (str (l.take j)):=by
 have d:Bi .str (str l) none (some (.int c (j:Int)))=some (str (l.take j)):=by
  unfold Bi;simp only[DY];simp only[Bb];rw[EC,D0 ⟨Q2 _,e⟩,Gn];rfl
 exact propext ⟨fun⟨v,a,b⟩=>by rw[d] at a;cases a;exact b,fun a=>⟨_,d,a⟩⟩
@[go_sem] def JY {kk:Iq}{l:Bs}{i:Nat}(d:i<=l.length):Cf .str (str l) (some (.int kk (i:Int))) none k=k (str (l.drop i)):=by
 have c:Bi .str (str l) (some (.int kk (i:Int))) none=some (str (l.drop i)):=by
  unfold Bi;simp only[DY];simp only[Bb];rw[EC,D0 ⟨d,I0 _⟩,Gn,L1]
 exact propext ⟨fun⟨v,a,b⟩=>by rw[c] at a;cases a;exact b,fun a=>⟨_,c,a⟩⟩
@[go_sem] def Vf {kk:Iq}{l:Bs}(a:1<=l.length):Cf .str (str l) (some (.int kk 1)) none k=k (str (l.drop 1)):=JY (i:=1) a
@[go_sem] theorem Jg {a b:Bs}(e:a.length+b.length<9223372036854775808):AQ .add (str a) (str b) k=k (str (a++b)):=by
 have c:DO .add (str a) (str b)=some (str (a++b)):=by
  simp only[DO];have d:IntKind.max .i64=9223372036854775807:=rfl;rw[F0 (by rw[EC,EC,d];omega)];congr 2
 exact propext ⟨fun⟨v,a,b⟩=>by rw[c] at a;cases a;exact b,fun a=>⟨_,c,a⟩⟩
def Ur (a b:Bs):(a == b)=decide (a=b):=by
 by_cases h:a=b
 ·subst h;simp
 ·simp[h]
@[go_sem] def Fs {a b:Bs}:AQ .eql (str a) (str b) k=k (.bool (decide (a=b))):=by
 have c:DO .eql (str a) (str b)=some (.bool (decide (a=b))):=by simp only[DO,ByteArray.toList_eq,Ur]
 exact propext ⟨fun⟨v,a,b⟩=>by rw[c] at a;cases a;exact b,fun a=>⟨_,c,a⟩⟩
@[go_sem] def EF {a b:Bs}:AQ .neq (str a) (str b) k=k (.bool (decide (a≠b))):=by
 have c:DO .neq (str a) (str b)=some (.bool (decide (a≠b))):=by simp only[DO,ByteArray.toList_eq,Ur,So]
 exact propext ⟨fun⟨v,a,b⟩=>by rw[c] at a;cases a;exact b,fun a=>⟨_,c,a⟩⟩
def DA {kk:Iq}{l:Bs}{n:Nat}{b:UInt8}(d:l[n]? = some b):Ef (str l) (.int kk (n:Int)) k=k (bc b):=by
 have e:(⟨l.toArray⟩:ByteArray)[n]? = some b:=by
  have a:n<l.length:=(G0.1 d).1;have:n<(⟨l.toArray⟩:ByteArray).size:=by rw[EC];exact a
  have g:=(G0.1 d).2;rw[getElem?_pos (⟨l.toArray⟩:ByteArray) n this];exact J3 some g
 unfold Ef;refine propext ⟨fun⟨s,kk',m,c,h1,h2,h3,h4,h5⟩=>?_,fun f=>⟨_,kk,n,b,rfl,rfl,by omega,by simpa using e,f⟩⟩;cases h1;cases h2;rw[J5,e] at h4;cases h4;exact h5
def DK {α:Type}(f:α->Vz)(l:List (Bs×α)):Array MapEntry:=⟨l.zipIdx.map fun p=>⟨str p.1.1,f p.1.2,p.2⟩⟩
def lookE {α:Type}(l:List (Bs×α))(nm:Bs):Option α:=(l.find? fun p=>p.1 == nm).map (·.2)
def Qh (a b:Bs):JM (str a) (str b)=some (decide (a=b)):=by
 show some ((⟨a.toArray⟩:ByteArray) == ⟨b.toArray⟩)=_;congr 1;by_cases h:a=b
 ·subst h;simp[QM]
 ·have:((⟨a.toArray⟩:ByteArray) == ⟨b.toArray⟩)=false:=by
   cases c:((⟨a.toArray⟩:ByteArray) == ⟨b.toArray⟩) with
   | false=>rfl
   | true=>
    have:=Tz c;simp at this;exact absurd this h
  rw[this];simp[h]
theorem Fy {α:Type}(f:α->Vz)(nm:Bs):∀ (l:List (Bs×α)) (i j:Nat),∃ q,DI (str nm) (l.zipIdx.map fun p=>(⟨str p.1.1,f p.1.2,p.2+j⟩:MapEntry)) i=some q/\q.map (·.2)=(lookE l nm).map f /\
  (∀ a b,q=some (a,b)->∃ c,l[a-i]? = some (nm,c)/\i<=a)
 | [],i,j=>⟨none,rfl,rfl,fun _ _ h=>by cases h⟩
 | (a,c)::l,i,j=>by
  simp only[List.zipIdx_cons,Q1,DI];have u:JM (str nm) (str a)=some (decide (nm=a)):=Qh nm a;rw[u];by_cases h:nm=a
  ·subst h;refine⟨some (i,f c),by simp,by simp[lookE],fun d g e=>?_⟩;cases e;exact⟨c,by simp,I0 _⟩
  ·obtain⟨q,n,o,s⟩:=Fy f nm l (i+1) (j+1);refine⟨q,?_,?_,fun d g e=>?_⟩
   ·simp only[h,decide_false];rw[<-n];congr 1;rw[List.zipIdx_succ,D5];apply Q4;intro p _;simp;omega
   ·rw[o];simp[lookE,List.find?_cons,beq_eq_false_iff_ne.2 (Ne.symm h)]
   ·obtain⟨m,t,v⟩:=s d g e;refine⟨m,?_,by omega⟩;rw[show d-i=(d-(i+1))+1 by omega];simpa using t
def Jl {α:Type}(f:α->Vz)(es:List (Bs×α))(i:Nat):(DK f es)[i]? = (es[i]?).map fun e=>(⟨str e.1,f e.2,i⟩:MapEntry):=by
 unfold DK;rw[Y7,Y0,List.getElem?_zipIdx];cases es[i]?<;>simp
def Hg {α:Type}{f:α->Vz}{es:List (Bs×α)}{e:MapEntry}(d:e∈DK f es):∃ i a,es[i]? = some a/\e=⟨str a.1,f a.2,i⟩:=by
 obtain⟨i,hi⟩:=Array.mem_iff_getElem?.1 d;rw[Jl,K4] at hi;obtain⟨a,b,c⟩:=hi;exact⟨i,a,b,c.symm⟩
def OP {α:Type}(f:α->Vz){es:List (Bs×α)}{i:Nat}{a:Bs×α}(g:es[i]? = some a):(DK f es).find? (·.born == i)=some ⟨str a.1,f a.2,i⟩:=by
 have n:(⟨str a.1,f a.2,i⟩:MapEntry)∈DK f es:=by
  refine P7 (i:=i) ?_;rw[Jl,g];rfl
 cases c:(DK f es).find? (·.born == i) with
 | none=>
  rw[Array.find?_eq_none] at c;exact absurd (by simp) (c _ n)
 | some e=>
  have m:=Array.mem_of_find?_eq_some c;have d:=Array.find?_some c;obtain⟨j,b,l,rfl⟩:=Hg m;simp only[beq_iff_eq] at d;subst d;rw[g] at l;cases l;rfl
def Mx {α:Type}(es:List α)(I:List Nat)(d:I.Nodup)(c:∀ i∈I,i<es.length)(b:∀ i,i<es.length->i∈I):(I.filterMap fun i=>es[i]?).Perm es:=by
 have j:I.Perm (List.range es.length):=by
  refine (List.perm_ext_iff_of_nodup d List.nodup_range).2 fun i=>?_;rw[H6];exact⟨c i,b i⟩
 have m:(List.range es.length).filterMap (fun i=>es[i]?)=es:=by
  apply O4;intro i;have:(List.range es.length).filterMap (fun i=>es[i]?)=es:=by
   have n:∀ (l:List α) (f:Nat->Option α),(∀ i,i<l.length->f i=l[i]?)->(List.range l.length).filterMap f=l:=by
    intro l
    induction l with
    | nil=>intro f _;rfl
    | cons a l p=>
     intro f g;rw[J1,List.range_succ_eq_map,List.filterMap_cons];have e:=g 0 (by simp);simp only[L4] at e;rw[e];simp only;rw[List.filterMap_map];congr 1;refine p (f∘Nat.succ) fun i hi=>?_;have:=g (i+1) (by simp;omega);simpa using this
   exact n es _ fun i _=>rfl
  rw[this]
 have o:=j.filterMap (fun i=>es[i]?)
 rwa [m] at o
def strs (l:List Bs):List Vz:=l.map str
def Lv (l:List Bs)(i:Nat)(a:Bs):(strs l).set i (str a)=strs (l.set i a):=by unfold strs;rw[E7]
def Fd {l:List Bs}{i:Nat}{a:Bs}(h:l[i]? = some a):(strs l)[i]? = some (str a):=by unfold strs;rw[Y0,h];rfl
def Jt {α:Type}{es:List (Bs×α)}{nm:Bs}{c:α}(h:lookE es nm=some c):(nm,c)∈es:=by
 unfold lookE at h;rw[K4] at h;obtain⟨p,e,f⟩:=h;have g:=List.mem_of_find?_eq_some e;have d:=List.find?_some e;simp only[beq_iff_eq] at d;obtain⟨a,b⟩:=p;simp only at f d;subst f d;exact g
def Hr {α:Type}{es:List (Bs×α)}(a:(es.map (·.1)).Nodup){e:Bs×α}(c:e∈es):lookE es e.1=some e.2:=by
 induction es with
 | nil=>cases c
 | cons x es d=>
  rw[Q1,U4] at a;unfold lookE;rw[List.find?_cons];rcases I1.1 c with h|h
  ·subst h;simp
  ·have b:(x.1 == e.1)=false:=by
    apply beq_eq_false_iff_ne.2;intro e1;exact a.1 (e1▸V1.2 ⟨e,h,rfl⟩)
   rw[b];exact d a.2 h
def Ki {α:Type}{es:List (Bs×α)}{nm:Bs}(h:∀ e∈es,e.1≠nm):lookE es nm=none:=by
 unfold lookE;have:es.find? (fun p=>p.1 == nm)=none:=by
  rw[List.find?_eq_none];intro e a;simpa using h e a
 rw[this];rfl
def IN {op:BinOp}{a b v:Vz}(d:DO op a b=some v):AQ op a b k=k v:=propext ⟨fun⟨u,h1,c⟩=>by rw[d] at h1;cases h1;exact c,fun c=>⟨_,d,c⟩⟩
def jy {kk:Iq}{a b:Nat}(g:kk.signed=false)(c:a<2^kk.bits)(d:b<2^kk.bits):AQ .or (.int kk (a:Int)) (.int kk (b:Int)) k=k (.int kk ((a ||| b:Nat):Int)):=by
 refine IN ?_;have e:(BitVec.ofInt kk.bits (a:Int) ||| BitVec.ofInt kk.bits (b:Int)).toNat=a ||| b:=by
  simp only[BitVec.toNat_or,BitVec.ofInt_natCast,BitVec.toNat_ofNat,C2 c,C2 d]
 have f:a ||| b<2^kk.bits:=Q6 c d
 simp only[DO,if_true,e];rw[ZK g (by omega) (by exact_mod_cast f)]
def AOb {kk:Iq}{a b:Nat}(g:kk.signed=false)(c:a<2^kk.bits)(d:b<2^kk.bits):AQ .xor (.int kk (a:Int)) (.int kk (b:Int)) k=k (.int kk ((a ^^^ b:Nat):Int)):=by
 refine IN ?_;have e:(BitVec.ofInt kk.bits (a:Int) ^^^ BitVec.ofInt kk.bits (b:Int)).toNat=a ^^^ b:=by
  simp only[BitVec.toNat_xor,BitVec.ofInt_natCast,BitVec.toNat_ofNat,C2 c,C2 d]
 have f:a ^^^ b<2^kk.bits:=H7 c d;simp only[DO,if_true,e];rw[ZK g (by omega) (by exact_mod_cast f)]
@[go_sem] def APc {a b:Nat}(c:a<65536)(d:b<65536):AQ .or (cU16 (a:Int)) (cU16 (b:Int)) k=k (cU16 ((a ||| b:Nat):Int)):=jy rfl c d
@[go_sem] def APd {a b:Nat}(c:a<4294967296)(d:b<4294967296):AQ .or (AM (a:Int)) (AM (b:Int)) k=k (AM ((a ||| b:Nat):Int)):=jy rfl c d
@[go_sem] def AD1 {a b:Nat}(c:a<18446744073709551616)(d:b<18446744073709551616):AQ .or (AH (a:Int)) (AH (b:Int)) k=k (AH ((a ||| b:Nat):Int)):=jy rfl c d
@[go_sem] def AKt {a b:Nat}(c:a<65536)(d:(OfNat.ofNat b:Int)<65536):AQ .or (cU16 (a:Int)) (cU16 (no_index (OfNat.ofNat b:Int))) k=k (cU16 ((a ||| b:Nat):Int)):=APc c (S7.1 d)
@[go_sem] def ATV {a b:Nat}(c:a<4294967296)(d:(OfNat.ofNat b:Int)<4294967296):AQ .or (AM (a:Int)) (AM (no_index (OfNat.ofNat b:Int))) k=k (AM ((a ||| b:Nat):Int)):=APd c (S7.1 d)
@[go_sem] def ATX {a b:Nat}(c:a<4294967296)(d:b<4294967296):AQ .xor (AM (a:Int)) (AM (b:Int)) k=k (AM ((a ^^^ b:Nat):Int)):=AOb rfl c d
def Ga {kk k':Iq}{a s:Nat}(b:s<=kk.bits):AQ .shl (.int kk (a:Int)) (.int k' (s:Int)) k=k (.int kk (kk.wrap ((a*2^s:Nat):Int))):=by
 refine IN ?_;simp only[DO];rw[F0 (by omega),J5,V2 b];have:(a:Int)*2^s=((a*2^s:Nat):Int):=by simp[Int.natCast_pow]
 rw[this]
def w32 {m:Nat}:IntKind.u32.wrap (m:Int)=((m%4294967296:Nat):Int):=qi
def w64 {m:Nat}:IntKind.u64.wrap (m:Int)=((m%18446744073709551616:Nat):Int):=qj
@[go_sem] def ARa {k':Iq}{a:Nat}:AQ .shl (AM (a:Int)) (.int k' 5) k=k (AM ((a*32%4294967296:Nat):Int)):=(Ga (s:=5) (by decide)).trans (by rw[w32])
@[go_sem] def ARb {k':Iq}{a:Nat}:AQ .shl (AM (a:Int)) (.int k' 8) k=k (AM ((a*256%4294967296:Nat):Int)):=(Ga (s:=8) (by decide)).trans (by rw[w32])
@[go_sem] def ARK {k':Iq}{a:Nat}:AQ .shl (AM (a:Int)) (.int k' 16) k=k (AM ((a*65536%4294967296:Nat):Int)):=(Ga (s:=16) (by decide)).trans (by rw[w32])
@[go_sem] def ARL {k':Iq}{a:Nat}:AQ .shl (AM (a:Int)) (.int k' 24) k=k (AM ((a*16777216%4294967296:Nat):Int)):=(Ga (s:=24) (by decide)).trans (by rw[w32])
@[go_sem] def ARc {k':Iq}{a:Nat}:AQ .shl (AH (a:Int)) (.int k' 8) k=k (AH ((a*256%18446744073709551616:Nat):Int)):=(Ga (s:=8) (by decide)).trans (by rw[w64])
@[go_sem] def AEZ {k':Iq}{a:Nat}:AQ .shl (AH (a:Int)) (.int k' 16) k=k (AH ((a*65536%18446744073709551616:Nat):Int)):=(Ga (s:=16) (by decide)).trans (by rw[w64])
@[go_sem] def Lr {k':Iq}{a:Nat}:AQ .shl (AH (a:Int)) (.int k' 32) k=k (AH ((a*4294967296%18446744073709551616:Nat):Int)):=(Ga (s:=32) (by decide)).trans (by rw[w64])
@[go_sem] def ARM {k':Iq}{a:Nat}:AQ .shl (AH (a:Int)) (.int k' 34) k=k (AH ((a*17179869184%18446744073709551616:Nat):Int)):=(Ga (s:=34) (by decide)).trans (by rw[w64])
@[go_sem] def ARP {k':Iq}{a:Nat}:AQ .shr (AM (a:Int)) (.int k' 27) k=k (AM ((a/134217728:Nat):Int)):=GC (s:=27)
@[go_sem] theorem rb {a:Nat}(l:a<9223372036854775808):AQ .andNot (AB (a:Int)) (AB 3) k=k (AB ((a/4*4:Nat):Int)):=by
 refine IN ?_;have c:(BitVec.ofInt 64 (a:Int) &&& ~~~ BitVec.ofInt 64 3).toNat=a/4*4:=by
  rw[BitVec.toNat_and,BitVec.ofInt_natCast,BitVec.toNat_ofNat,C2 (by omega)];have d:(~~~ BitVec.ofInt 64 3:BitVec 64).toNat=2^64-1-3:=by decide
  rw[d];apply Nat.eq_of_testBit_eq;intro i;rw[Nat.testBit_and];have e:a/4*4=(a >>> 2) <<< 2:=by rw[Nat.shiftRight_eq_div_pow,Nat.shiftLeft_eq]
  rw[e,Nat.testBit_shiftLeft,Nat.testBit_shiftRight];have g:(2^64-1-3:Nat)=(2^62-1) <<< 2:=by decide
  rw[g,Nat.testBit_shiftLeft,Nat.testBit_two_pow_sub_one];by_cases b:2<=i
  ·rw[show 2+(i-2)=i by omega];by_cases f:i-2<62
   ·simp[b,f]
   ·have:a.testBit i=false:=Nat.testBit_lt_two_pow (O6 (show a<2^64 by omega) (W8 (by omega) (by omega)));simp[this]
  ·simp[b]
 have j:DO .andNot (AB (a:Int)) (AB 3)=some (AB (IntKind.i64.wrap (((BitVec.ofInt 64 (a:Int) &&& ~~~ BitVec.ofInt 64 3).toNat:Nat):Int))):=rfl;rw[j,c,Bq (by omega)]
open Go.Shelf
def Tryz.lays137_ren:Go.Shelf.Ren:=⟨fun|137=>165|217=>199|266=>211|n=>n,fun|9=>9|5=>5|3=>3|n=>n,fun|n=>n⟩
def Tryz.lays137:Go.Proofs.Lays.n137 Tryz.prog Tryz.lays137_ren:={
 mixed:=by kernel_rfl
 f137:=Tryz.func165.trans (J3 some (by kernel_rfl))
 f217:=Tryz.func199.trans (J3 some (by kernel_rfl))
 f266:=Tryz.func211.trans (J3 some (by kernel_rfl))
 t3:=Tryz.underlying3
 a3:=Tryz.isAgg3
 z3:=Tryz.sizeOf3
 v3:=Tryz.zeroValue3
 t5:=Tryz.underlying5
 a5:=Tryz.isAgg5
 z5:=Tryz.sizeOf5
 v5:=Tryz.zeroValue5
 t9:=Tryz.underlying9
 a9:=Tryz.isAgg9
 z9:=Tryz.sizeOf9
 v9:=Tryz.zeroValue9}
open Go.RowKit in
def Tryz.strings_IndexByte (s:ByteArray)(c:Int)(w:World) :
  Calls Tryz.prog 165 #[.string s,.int .u8 c] w fun e w'=>e=.returned (.int .i64 (Lib.indexByte s.data.toList c.toNat.toUInt8))/\w'=w:=Any.strings_IndexByte Tryz.lays137 s c w
open Go.RowKit Go.Lib in
def AKw {db:Nat}{T:Tj}{bv s:Vz}{B news:Bs}{pos:Nat}(b:BufV bv B r)(w:AN (pts db (.cells ⟨[bv,AB pos]⟩ T (0,0))+(r+x)) h)(d:RdX x s news)
  (i:B.length<=140737488355328) (j:0<news.length) (f:pos+news.length<=B.length)
  (K:∀ bv r h,BufV bv (setL B pos news) r->AN (pts db (.cells ⟨[bv,AB ((pos+news.length:Nat):Int)]⟩ T (0,0))+(r+x)) h->Q (.tuple #[]) h):Rp Q (Pt db) s h:=by
 obtain⟨a,c,rfl⟩:=d.len;cases b with
 | nil=>simp only[C4] at f;omega
 | own g=>
  rename_i bb n all;have e:(all.take n).length=n:=by simp[V2 g]
  rw[e] at f i;unfold Rp AW;simp (disch:=omega) only[go_sem,AC w,U1];rw[Res.left_comm] at w;refine Hc w d.bf (by omega) (by omega) fun h w=>?_;simp (disch:=omega) only[go_sem,AC w];refine KB w rfl (by simp) rfl fun h w=>?_;rw[Res.left_comm] at w;exact K _ _ _ (.own' (by rw[Ad (by omega)];exact g) (Ad (by omega)) (Mc f g)) w
def ANj {db:Nat}{T:Tj}{bv s:Vz}{B news:Bs}{pos:Nat}(b:BufV bv B r)(w:AN (pts db (.cells ⟨[bv,AB pos]⟩ T (0,0))+(r+x)) h)(d:RdX x s news)
  (l:pos+news.length<=140737488355328) (j:B.length<=140737488355328) (f:0<news.length)
  (K:∀ bv r h,BufV bv (putL B pos news) r->AN (pts db (.cells ⟨[bv,AB ((pos+news.length:Nat):Int)]⟩ T (0,0))+(r+x)) h->Q (.tuple #[]) h):ot (Pt db) s h Q:=by
 obtain⟨a,c,rfl⟩:=d.len;unfold ot AW;simp (disch:=omega) only[go_sem,AC w];obtain⟨a2,c2,e⟩:=b.len;subst e;simp (disch:=omega) only[go_sem];refine AS (fun g=>?_) (fun g=>?_)
 ·simp (disch:=omega) only[go_sem];rw[Res.left_comm] at w;refine LB b w (by omega) fun bv r h b w=>?_;rw[Res.left_comm] at w;obtain⟨a3,i,rfl⟩:=b.len;refine KB w rfl (by simp) rfl fun h w=>?_;exact AKw b w d (by simp;omega) f (by simp;omega) K
 ·refine AKw b w d (by omega) f (by omega) fun bv r h b w=>K bv r h ?_ w;unfold putL;rw[show pos+news.length-B.length=0 by omega];simpa using b
def APm {db:Nat}{T:Tj}{bv s:Vz}{B:Bs}{pos:Nat}(b:BufV bv B r)(w:AN (pts db (.cells ⟨[bv,AB pos]⟩ T (0,0))+(r+x)) h)(d:RdX x s [])(m:pos<=B.length)(hB:B.length<=140737488355328)
  (K:∀ h,AN (pts db (.cells ⟨[bv,AB pos]⟩ T (0,0))+(r+x)) h->Q (.tuple #[]) h):ot (Pt db) s h Q:=by
 obtain⟨a,c,rfl⟩:=d.len;obtain⟨a2,c2,p⟩:=b.len;have t:∀ k:Vz->Prop,(∀ f n' l,(f=none\/∃ bb o all,f=some ⟨bb,o,none⟩/\r=buf bb all/\o<=all.length)->k (.slice f n' l))->Cf (.slice 1) bv (some (AB (pos:Int))) none k:=fun k g=>by
  cases b with
  | nil=>
   have:pos=0:=by simpa using m
   subst this;exact⟨.slice none 0 0,rfl,g _ _ _ (.inl rfl)⟩
  | own q=>
   rename_i bb n all;have j:(all.take n).length=n:=by simp[V2 q]
   rw[j] at m;by_cases v:pos=all.length
   ·refine⟨.slice (some ⟨bb,0,none⟩) (n-pos) (all.length-pos),?_,g _ _ _ (.inr ⟨bb,0,all,rfl,rfl,by omega⟩)⟩;simp[Bi,Bb,m,q,v];omega
   ·rw[JX m q v];exact g _ _ _ (.inr ⟨bb,_,all,rfl,rfl,by omega⟩)
 unfold ot AW;simp (disch:=omega) only[go_sem,AC w,C4];rw[p];simp (disch:=omega) only[go_sem,C4,Z4,J0];unfold Rp AW;simp (disch:=omega) only[go_sem,AC w,C4];refine t _ fun f n' l ha=>?_;have e:∀ kt:Kt,kt AF h->JB 1 (.slice f n' l) (.slice a 0 c) h kt:=fun kt g=>by
  refine⟨f,n',l,0,#[],rfl,rfl,?_,?_⟩
  ·have:=(d.rd w.right.right).src 0 (Q2 _);simpa[bcs] using this
  ·rcases ha with rfl|⟨bb,o,all,rfl,hr,ho⟩
   ·exact .inl ⟨rfl,by simpa using g⟩
   ·subst hr;refine .inr ⟨_,bcs all,5,rfl,rfl,w.right.left.one,by simp[DX];exact ho,rfl,?_⟩;have:h.setIfInBounds bb (.cells (Av (bcs all) o []) 5 (0,0))=h:=by
     apply N6;intro i;rw[D4];have u:=w.right.left.one;by_cases hi:bb=i
     ·subst hi;rw[D0 rfl,D0 (S3.1 u).1,u];rfl
     ·rw[F0 hi]
    rw[show (#[]:Array Vz).toList=[] from rfl,this];simpa using g
 refine e _ ?_;simp (disch:=omega) only[go_sem,AC w,C4,Z4];refine KB w rfl (by simp) rfl fun h w=>?_;exact K h w
structure WS where
 wb:Nat
 db:Nat
 dv:Vz
 B:Bs
 dr:Res
 d9:Nat
 inv:Vz
 nm:Vz
 cur:Vz
 pos:Nat
 dw:Nat
 dm:Nat
 ini:Bool
 inl:Bool
 max:Nat
 gd:Nat
abbrev WS.cells (s:WS):Array Vz:=⟨[Pt s.db,s.inv,s.nm,s.cur,AB s.pos,AB s.dw,AB s.dm,.nilIface,.bool s.ini,.bool s.inl,AB s.max,AM s.gd]⟩
abbrev WS.res (s:WS):Res:=pts s.wb (.cells s.cells 184 (0,0))+(pts s.db (.cells ⟨[s.dv,AB s.d9]⟩ 121 (0,0))+s.dr)
structure WS.OK (s:WS):Prop where
 buf:BufV s.dv s.B s.dr
 len:s.B.length<=s.max
 max:s.max<=1099511627776
def s98 {s:WS}{v:Vz}{news:Bs}(ok:s.OK)(w:AN (s.res+x) h)(d:RdX x v news)(j:0<news.length)(l:s.pos+news.length<=s.max)(e:s.d9=s.pos)
  (K:∀ dv r h,WS.OK {s with dv:=dv,dr:=r,B:=putL s.B s.pos news,d9:=s.pos+news.length,pos:=s.pos+news.length} ->
   AN (WS.res {s with dv:=dv,dr:=r,B:=putL s.B s.pos news,d9:=s.pos+news.length,pos:=s.pos+news.length}+x) h->Q (.tuple #[AB (news.length:Nat),.nilIface]) h):f98 (Pt s.wb) v h Q:=by
 have f:=ok.max;have g:=ok.len;obtain⟨a,c,i⟩:=d.len;unfold f98 AW;rw[i];simp (disch:=omega) only[go_sem,AC w,J0];rw[<-i];refine Ro (ANj (x:=pts s.wb (.cells s.cells 184 (0,0))+x) (pos:=s.d9) (T:=121) ok.buf (w.cast (by unfold WS.res;ac_rfl)) d.bf (by omega) (by omega) j fun bv r h b w=>?_);simp (disch:=omega) only[go_sem,AC w];refine AD w (WS.cells {s with pos:=s.pos+news.length}) rfl rfl (by simp) rfl fun h w=>?_;refine K bv r h ⟨by rw[e] at b;exact b,?_,f⟩ (w.cast ?_)
 ·simp only[Fa];omega
 ·rw[e];unfold WS.res;ac_rfl
def AD9 {B:Bs}{pos:Nat}(a:pos<=B.length):putL B pos []=B:=by
 unfold putL setL;simp only[C4,Z4,X0];rw[show pos-B.length=0 by omega];simp
def APn {db:Nat}{T:Tj}{bv s:Vz}{B news:Bs}{pos:Nat}(b:BufV bv B r)(w:AN (pts db (.cells ⟨[bv,AB pos]⟩ T (0,0))+(r+x)) h)(d:RdX x s news)
  (f:pos+news.length<=140737488355328) (a:B.length<=140737488355328) (c:news.length=0->pos<=B.length)
  (K:∀ bv r h,BufV bv (putL B pos news) r->AN (pts db (.cells ⟨[bv,AB ((pos+news.length:Nat):Int)]⟩ T (0,0))+(r+x)) h->Q (.tuple #[]) h):ot (Pt db) s h Q:=by
 by_cases e:0<news.length
 ·exact ANj b w d f a e K
 ·have:news=[]:=X4.1 (by omega);subst this;refine APm b w d (c rfl) a fun h w=>K bv r h ?_ w;rw[AD9 (c rfl)];exact b
def APl {s:WS}{n:Nat}(ok:s.OK)(w:AN (s.res+x) h)(f:n=0->s.pos<=s.B.length)(e:s.pos+n<=s.max)(a:s.d9=s.pos)
  (K:∀ dv r h,WS.OK {s with dv:=dv,dr:=r,B:=putL s.B s.pos (List.replicate n 0),d9:=s.pos+n,pos:=s.pos+n} ->
   AN (WS.res {s with dv:=dv,dr:=r,B:=putL s.B s.pos (List.replicate n 0),d9:=s.pos+n,pos:=s.pos+n}+x) h->Q (.tuple #[AB (n:Nat),.nilIface]) h):vu (Pt s.wb) (AB (n:Int)) h Q:=by
 have c:=ok.max;have d:=ok.len;unfold vu AW;simp (disch:=omega) only[go_sem,AC w,J0];refine Ei w (by omega) fun mb h w=>⟨Aj w rfl,?_⟩;refine Ro (APn (x:=pts s.wb (.cells s.cells 184 (0,0))+(buf mb (List.replicate n 0)+x)) (pos:=s.d9) (T:=121) (news:=List.replicate n 0) ok.buf (w.cast (by unfold WS.res;ac_rfl))
  (RdX.bf (.ofBuf (by simp))) (by simp;omega) (by omega) (by simp;omega) fun bv r h b w=>?_)
 simp (disch:=omega) only[go_sem,AC w];refine AD w (WS.cells {s with pos:=s.pos+n}) rfl rfl (by simp) rfl fun h w=>?_;refine K bv r h ⟨by rw[a] at b;exact b,?_,c⟩ (AN.left (y:=buf mb (List.replicate n 0)) (w.cast ?_))
 ·simp only[Fa,M0];omega
 ·rw[a];simp only[M0];unfold WS.res;ac_rfl
def AHN {s:WS}{n:Nat}(w:AN (s.res+x) h)(a:n<4294967296)
  (K:∀ h,AN (WS.res {s with d9:=n*4096,pos:=n*4096}+x) h->Q (.tuple #[]) h):AFZ (Pt s.wb) (AM (n:Int)) h Q:=by
 unfold AFZ AW;simp (disch:=omega) only[go_sem,AC w];refine AD w (WS.cells {s with pos:=n*4096}) rfl rfl (by simp) rfl fun h w=>?_;simp (disch:=omega) only[go_sem,AC w];exact AD w ⟨[s.dv,AB (n*4096:Nat)]⟩ rfl rfl (by simp) rfl fun h w=>K h w
def s100 {s:WS}(ok:s.OK)(b:s.pos<=s.max)(w:AN (s.res+x) h)(K:Q (AM (s.pos/4096:Nat)) h):AFY (Pt s.wb) h Q:=by
 have a:=ok.max;unfold AFY AW;simp (disch:=omega) only[go_sem,AC w];exact K
def s96 {s:WS}{nm:ByteArray}{p:Vz}{n:Nat}(w:AN (s.res+x) h)(b:s.cur=.pointer none)(c:∃ a,p=.pointer a)
  (K:∀ h,AN (WS.res {s with nm:=.string nm,cur:=p,dw:=0,dm:=n}+x) h->Q (.tuple #[]) h):f96 (Pt s.wb) (.string nm) p (AB (n:Int)) h Q:=by
 obtain⟨a,rfl⟩:=c;unfold f96 AW;simp (disch:=omega) only[go_sem,AC w,b];refine AD w (WS.cells {s with nm:=.string nm}) rfl rfl (by simp) rfl fun h w=>?_;refine AD w (WS.cells {s with nm:=.string nm,cur:=.pointer a}) rfl rfl (by simp) rfl fun h w=>?_;refine AD w (WS.cells {s with nm:=.string nm,cur:=.pointer a,dw:=0}) rfl rfl (by simp) rfl fun h w=>?_;exact AD w (WS.cells {s with nm:=.string nm,cur:=.pointer a,dw:=0,dm:=n}) rfl rfl (by simp) rfl fun h w=>K h w
def ASj {s:WS}(ok:s.OK)(w:AN (s.res+x) h)(j:s.pos+4096<=s.max)(c:s.d9=s.pos)(i:s.B.length<=s.pos)
  (K:∀ dv r h n,n=(4096-s.pos%4096)%4096->WS.OK {s with dv:=dv,dr:=r,B:=if n=0 then s.B else putL s.B s.pos (List.replicate n 0),d9:=s.pos+n,pos:=s.pos+n} ->
   AN (WS.res {s with dv:=dv,dr:=r,B:=if n=0 then s.B else putL s.B s.pos (List.replicate n 0),d9:=s.pos+n,pos:=s.pos+n}+x) h->Q (.tuple #[]) h):AMY (Pt s.wb) h Q:=by
 have d:=ok.max;unfold AMY AW;simp (disch:=omega) only[go_sem,AC w];refine AS (fun f=>?_) (fun f=>?_)
 ·have e:s.pos%4096≠0:=by omega
  have g:AQ .sub (AB 4096) (AB ((s.pos%4096:Nat):Int))=fun k=>k (AB ((4096-s.pos%4096:Nat):Int)):=by
   funext k;have:=TF (kk:=.i64) (a:=4096) (b:=s.pos%4096) (k:=k) (by omega);rw[Bq (by omega)] at this;exact this
  rw[g];refine Rn (APl ok w (by omega) (by omega) c fun dv r h ok w=>?_);simp (disch:=omega) only[go_sem];refine K dv r h (4096-s.pos%4096) (by omega) ?_ ?_
  ·rw[F0 (by omega)];exact ok
  ·rw[F0 (by omega)];exact w
 ·have e:s.pos%4096=0:=by omega
  refine K s.dv s.dr h 0 (by omega) ?_ ?_
  ·exact⟨ok.buf,ok.len,ok.max⟩
  ·refine w.cast ?_;unfold WS.res;simp only[Z4,if_true];rw[c]
def ASV {l:Bs}{c:UInt8}(K:Q (AB (Lib.indexByte l c)) h):Call TP 165 [str l,.int .u8 (c.toNat:Int)] h Q:=fun w a=>
 (Tryz.strings_IndexByte ⟨l.toArray⟩ (c.toNat:Int) w).mono (by
  rintro e b ⟨rfl,rfl⟩;refine⟨BX,?_⟩;rw[a];simpa using K)
def Id (p:Bs):Bs×Bs:=(p.takeWhile (· != 47),(p.dropWhile (· != 47)).drop 1)
def Yf (p:Bs):(Lib.indexByte p 47 = -1/\Id p=(p,[]))\/∃ n:Nat,Lib.indexByte p 47=n/\n<p.length/\Id p=(p.take n,p.drop (n+1)):=by
 induction p with
 | nil=>exact .inl ⟨rfl,rfl⟩
 | cons b l f=>
  unfold Lib.indexByte;by_cases c:b=47
  ·subst c;exact .inr ⟨0,by simp,by simp,by simp[Id]⟩
  ·have e:(b == 47)=false:=by simpa using c
   have d:(b != 47)=true:=by simpa using c
   rw[e];rcases f with⟨e1,e2⟩|⟨n,e1,e2,a⟩
   ·left;unfold Id at e2 ⊢;simp only[D7] at e2;refine⟨by simp[e1],?_⟩;simp only[Y8,Z8,d,if_true,e2.1,e2.2]
   ·right;unfold Id at a ⊢;simp only[D7] at a;refine⟨n+1,?_,by simpa using e2,?_⟩
    ·have:¬((n:Int) = -1):=by omega
     simp[e1,this]
    ·simp only[Y8,Z8,d,if_true,a.1,a.2];rfl
def AR8 {p:Bs}(b:p.length<9223372036854775807)(K:Q (.tuple #[str (Id p).1,str (Id p).2]) h):ALR (str p) h Q:=by
 unfold ALR AW;refine ASV (c:=47) ?_;rcases Yf p with⟨e1,e2⟩|⟨n,e1,e2,a⟩
 ·rw[e1];simp (disch:=omega) only[go_sem,J0];rw[e2] at K;exact K
 ·rw[e1];simp (disch:=omega) only[go_sem,H0];rw[a] at K;exact K
def NK (p:Bs):Bs×Bs:=((p.reverse.dropWhile (· != 47)).reverse,(p.reverse.takeWhile (· != 47)).reverse)
def UC {a b:Bs}(n:∀ c∈b,c≠47)(j:a=[]\/∃ e,a=e++[47]):NK (a++b)=(a,b):=by
 unfold NK;rw[List.reverse_append];have i:∀ l:Bs,(∀ c∈l,c≠47)->∀ m:Bs,(m=[]\/∃ m',m=47::m')->(l++m).takeWhile (· != 47)=l/\(l++m).dropWhile (· != 47)=m:=by
  intro l
  induction l with
  | nil=>
   intro _ m f;rcases f with rfl|⟨m',rfl⟩<;>simp
  | cons c l q=>
   intro g m f;have o:(c != 47)=true:=by simpa using g c (T0 ..)
   have:=q (fun d p=>g d (U0 _ p)) m f;simp only[Y5,Y8,Z8,o,if_true,this.1,this.2,and_self]
 have:=i b.reverse (by simpa using n) a.reverse (by
  rcases j with rfl|⟨e,rfl⟩
  ·left;rfl
  ·right;exact⟨e.reverse,by simp⟩)
 rw[this.1,this.2,List.reverse_reverse,List.reverse_reverse]
def tg {p:Bs}{n:Nat}(l:n<=p.length)(e:∀ i,n<=i->i<p.length->p[i]? ≠ some 47)(f:n=0\/p[n-1]? = some 47):NK p=(p.take n,p.drop n):=by
 have:=UC (a:=p.take n) (b:=p.drop n) (fun c j=>?_) ?_
 ·rwa [B6] at this
 ·obtain⟨i,hi⟩:=List.mem_iff_getElem?.1 j;rw[Q3] at hi;rintro rfl;exact e (n+i) (by omega) (G0.1 hi).1 hi
 ·rcases X7 n with h|h
  ·left;subst h;rfl
  ·right;have g:=f.resolve_left (by omega);refine⟨p.take (n-1),?_⟩;apply O4;intro i;rw[List.getElem?_append,I2,I2];simp only[W1];by_cases hi:i<n-1
   ·rw[D0 (by omega),D0 (by omega),D0 hi]
   ·rw[F0 (show ¬i<min (n-1) p.length by omega)];by_cases d:i=n-1
    ·subst d;rw[D0 (by omega),g];simp[V2 (show n-1<=p.length by omega)]
    ·rw[F0 (by omega),D3 (by simp;omega)]
def ASU {p:Bs}(s:p.length<9223372036854775807)(K:Q (AB ((NK p).1.length-1:Int)) h):AMA (str p) (.int .u8 47) h Q:=by
 unfold AMA AW;simp only[go_sem,Ci];rw[ED (by omega) (by omega)];refine ADq ⟨fun m v j=>m<=p.length/\v=AB ((m:Int)-1)/\j=h/\(∀ i,m<=i->i<p.length->p[i]? ≠ some 47),⟨p.length,I0 _,rfl,rfl,fun i o l=>by omega⟩,?_⟩;rintro n v j ⟨g,rfl,rfl,a⟩;unfold Xn BL;simp only[go_sem];refine AS (fun q=>?_) (fun q=>?_)
 ·obtain⟨b,f⟩:∃ b,p[n-1]? = some b:=⟨_,B0 (by omega)⟩;have e:((n:Int)-1)=((n-1:Nat):Int):=by omega
  rw[e,DA f,bc];simp only[go_sem];refine AS (fun c=>?_) (fun c=>?_)
  ·have:b=47:=J6.1 (show b.toNat=47 by omega);subst this;rw[tg g a (.inr f)] at K;simp only[W1,V2 g] at K;rw[<-e];exact K
  ·rw[Ci,<-e,ED (by omega) (by omega)];refine⟨n-1,by omega,by omega,by congr 1;omega,trivial,fun i o l=>?_⟩;by_cases hi:i=n-1
   ·subst hi;rw[f];rintro d;cases d;exact c rfl
   ·exact a i (by omega) l
 ·have:n=0:=by omega
  subst this;rw[tg g a (.inl rfl)] at K;simpa using K
def AR7 {p:Bs}(j:p.length<9223372036854775807)(K:Q (.tuple #[str (NK p).1,str (NK p).2]) h):ALQ (str p) h Q:=by
 unfold ALQ AW;have d:p=(NK p).1++(NK p).2:=by
  unfold NK;simp only;rw[<-List.reverse_append,List.takeWhile_append_dropWhile,List.reverse_reverse]
 have c:(NK p).1.length<=p.length:=by
  have:=J3 List.length d;simp only[C0] at this;omega
 refine AF5 (ASU j ?_);simp only[BT];rw[ED (by omega) (by omega)];have e:((NK p).1.length-1+1:Int)=(((NK p).1.length:Nat):Int):=by omega
 rw[e,NH c,JY c];have f:∀ a b:Bs,p=a++b->p.take a.length=a/\p.drop a.length=b:=by
  rintro a b rfl;simp
 obtain⟨g,i⟩:=f _ _ d;rw[g,i];exact K
inductive LzB (s:Bs):Vz->Bs->Res->Prop
 | no {c:Bs}:c.length<=s.length->s.take c.length=c->LzB s cst__slice_none_0_0  c 0
 | yes {b:Nat} {all c:Bs}:c.length<=s.length->all.length=s.length->all.take c.length=c->LzB s (.slice (some ⟨b,0,none⟩) s.length s.length) c (pts b (.cells (bcs all) 5 (0,0)))
abbrev lz (ob:Nat)(s:Bs)(bv:Vz)(w:Nat):Res:=pts ob (.cells ⟨[str s,bv,AB w]⟩ 295 (0,0))
def LzB.len {s c:Bs}{bv:Vz}(b:LzB s bv c r):c.length<=s.length:=by cases b<;>assumption
def LzB.cut {s c:Bs}{bv:Vz}(b:LzB s bv c r)(n:Nat):LzB s bv (c.take n) r:=by
 cases b with
 | no h1 h2=>exact .no (by simp;omega) (by rw[<-h2];simp[T6])
 | yes h1 h2 h3=>exact .yes (by simp;omega) h2 (by rw[<-h3];simp[T6])
def Dq {b o n c i:Nat}{kk:Iq}(hi:i<n):Ap (.slice 1) (.slice (some ⟨b,o,none⟩) n c) (.int kk (i:Int)) k=k (.pointer (some ⟨b,o+i,none⟩)):=by
 unfold Ap;refine propext ⟨fun⟨kk',m,h1,a,l,c',h2,h3,h4,h5⟩=>?_,fun d=>⟨kk,i,rfl,_,n,c,rfl,by omega,by omega,?_⟩⟩
 ·cases h1;cases h2;rw[J5,M5,Cb] at h5;exact h5
 ·rw[J5,M5,Cb];exact d
def Dc {b o:Nat}{l:Bs}{T:Tj}{c:UInt8}{a:H->Prop}(w:AN (pts b (.cells (bcs l) T (0,0))+x) h)(d:o<l.length)(K:∀ h,AN (pts b (.cells (bcs (setL l o [c])) T (0,0))+x) h->a h):BV 1 (.pointer (some ⟨b,o,none⟩)) (bc c) h a:=by
 refine AD w (bcs (setL l o [c])) ?_ rfl (by rw[DX];omega) rfl K;rw[<-Ds (by simp;omega)];rfl
def OI {b off n c:Nat}{T:Tj}{all src:Bs}{kt:Kt}(w:AN (pts b (.cells (bcs all) T (0,0))+x) h)(a:off+src.length<=all.length)(d:src.length<=n)
  (K:∀ h,AN (pts b (.cells (bcs (setL all off src)) T (0,0))+x) h->kt (AB (src.length:Nat)) h):JB 1 (.slice (some ⟨b,off,none⟩) n c) (str src) h kt:=by
 refine⟨_,n,c,src.length,bcs src,rfl,by simp[srcLen,EC],?_,.inr ⟨_,bcs all,T,rfl,rfl,w.left.one,by rw[DX,DX];exact a,LD _,?_⟩⟩
 ·rw[V2 d];show some (DJ ((⟨src.toArray⟩:ByteArray).extract 0 src.length))=_;rw[Gn];simp[DJ,bcs,bc]
 ·rw[V2 d];simp only;rw[Ds a];exact K _ w.set
@[go_sem] def ATT {c:Bool}{n m:Nat}{a:Option Addr}{n' m':Nat}:HF .slice c false h (.slice none n m) (.slice a n' m') k=k (.bool a.isNone):=by simp[HF,HS]
@[go_sem] def ATU {c:Bool}{n m:Nat}{a:Addr}{n' m':Nat}:HF .slice c false h (.slice (some a) n m) (.slice none n' m') k=k  AE :=by simp[HF,HS]
@[go_sem] def ARx {c:Bool}{n m:Nat}{a:Option Addr}{n' m':Nat}:HF .slice c true h (.slice none n m) (.slice a n' m') k=k (.bool (!a.isNone)):=by simp[HF,HS]
@[go_sem] def ARy {c:Bool}{n m:Nat}{a:Addr}{n' m':Nat}:HF .slice c true h (.slice (some a) n m) (.slice none n' m') k=k  AI :=by simp[HF,HS]
def AKx {ob:Nat}{s c all:Bs}{b:Nat}{u:UInt8}(w:AN (lz ob s (.slice (some ⟨b,0,none⟩) s.length s.length) c.length+(pts b (.cells (bcs all) 5 (0,0))+x)) h)(f:c.length<s.length)(d:all.length=s.length)(e:all.take c.length=c)(g:s.length<9223372036854775808)
  (K:∀ bv r h,LzB s bv (c++[u]) r->AN (lz ob s bv (c++[u]).length+(r+x)) h->Q (.tuple #[]) h):Xm Q (Pt ob) (bc u) h:=by
 unfold Xm AW;simp (disch:=omega) only[go_sem,AC w,Dq,U1];refine Dc (w.cast (Res.left_comm _ _ _)) (by omega) fun h w=>?_;simp (disch:=omega) only[go_sem,AC w];refine AD w ⟨[str s,.slice (some ⟨b,0,none⟩) s.length s.length,AB ((c.length+1:Nat):Int)]⟩ rfl rfl (by simp) rfl fun h w=>?_;have a:c.length+[u].length<=all.length:=by simp;omega
 refine K _ _ _ (.yes (b:=b) (all:=setL all c.length [u]) (by simp;omega) ((Ad a).trans d) ?_) (w.cast ?_)
 ·apply O4;intro i;rw[I2,Ep a];have:=J3 (·[i]?) e;simp only[I2] at this
  grind
 ·simp only[C0,U3];unfold lz;ac_rfl
def AN5 {ob:Nat}{s c:Bs}{bv:Vz}{u:UInt8}(b:LzB s bv c r)(w:AN (lz ob s bv c.length+(r+x)) h)(a:c.length<s.length)(f:s.length<=140737488355328)
  (K:∀ bv r h,LzB s bv (c++[u]) r->AN (lz ob s bv (c++[u]).length+(r+x)) h->Q (.tuple #[]) h):AL7 (Pt ob) (bc u) h Q:=by
 unfold AL7 AW;cases b with
 | no h1 h2=>
  obtain⟨v,d⟩:∃ v,s[c.length]? = some v:=⟨_,B0 a⟩;simp (disch:=omega) only[go_sem,AC w,Option.isNone_none,H0,DA d,bc];unfold AAP AW;refine AS (fun e=>?_) (fun e=>?_)
  ·have:v=u:=J6.1 (by omega);subst this;simp (disch:=omega) only[go_sem,AC w];refine AD w ⟨[str s,.slice none 0 0,AB ((c.length+1:Nat):Int)]⟩ rfl rfl (by simp) rfl fun h w=>?_;refine K _ _ _ (.no (by simp;omega) ?_) (w.cast ?_)
   ·rw[C0,U3,O3,h2,d];rfl
   ·simp only[C0,U3]
  ·simp (disch:=omega) only[go_sem,AC w];refine Ei w f fun mb h w=>?_;refine AD w ⟨[str s,.slice (some ⟨mb,0,none⟩) s.length s.length,AB (c.length:Nat)]⟩ rfl rfl (by simp) rfl fun h w=>?_;simp (disch:=omega) only[go_sem,AC w];refine OI w (by simp;omega) (by simp;omega) fun h w=>?_;refine AKx (x:=x) (all:=setL (List.replicate s.length 0) 0 (s.take c.length)) (w.cast (by rw[Res.zero_add];unfold lz;ac_rfl)) a ?_ ?_ (by omega) K
   ·rw[Ad (by simp;omega)];simp
   ·rw[h2];apply O4;intro i;rw[I2,Ep (by simp;omega)]
    grind
 | yes h1 h2 h3=>
  simp (disch:=omega) only[go_sem,AC w];exact AKx w a h2 h3 (by omega) K
def ASS {ob i wv:Nat}{s c:Bs}{bv:Vz}{u:UInt8}(b:LzB s bv c r)(w:AN (lz ob s bv wv+(r+x)) h)(a:c[i]? = some u)(K:Q (bc u) h):AL8 (Pt ob) (AB (i:Int)) h Q:=by
 have hi:i<c.length:=(G0.1 a).1;unfold AL8 AW;cases b with
 | no h1 h2=>
  have:s[i]? = some u:=by
   have:=J3 (·[i]?) h2;simp only[I2] at this;rw[D0 hi] at this;rw[this,a]
  simp (disch:=omega) only[go_sem,AC w,Option.isNone_none,DA this];exact K
 | yes h1 h2 h3=>
  rename_i bb all;have:all[i]? = some u:=by
   have:=J3 (·[i]?) h3;simp only[I2] at this;rw[D0 hi] at this;rw[a] at this;exact this
  simp (disch:=omega) only[go_sem,AC w,Dq,U1];rw[Ji,this];exact K
def AFF {b o n c:Nat}{l:Bs}{T:Tj}{fz:Nat×Nat}(w:AN x h)[Be b x (.cells (bcs l) T fz)](f:o+n<=l.length):r8 (.slice (some ⟨b,o,none⟩) n c) h k=k (str ((l.drop o).take n)):=by
 have e:∀ l:Bs,EY (l.map bc)=some l:=by
  intro l
  induction l with
  | nil=>rfl
  | cons a l g=>simp[EY,bc,g]
 have d:OE h (.slice (some ⟨b,o,none⟩) n c)=some (str ((l.drop o).take n)):=by
  unfold OE;simp only[w.find (b:=b),Z5,K3,if_false,DX];rw[D0 f,Tq];simp only[bcs,e,V3,M4]
 exact propext ⟨fun⟨v,a,b⟩=>by rw[d] at a;cases a;exact b,fun a=>⟨_,d,a⟩⟩
def Ve {kk:Iq}{b o n c j:Nat}(e:j<=c)(f:0<c):Cf (.slice 1) (.slice (some ⟨b,o,none⟩) n c) none (some (.int kk (j:Int))) k=k (.slice (some ⟨b,o,none⟩) j c):=by
 have d:Bi (.slice 1) (.slice (some ⟨b,o,none⟩) n c) none (some (.int kk (j:Int)))=some (.slice (some ⟨b,o,none⟩) j c):=by
  simp only[Bi,DY];simp only[Bb];rw[D0 ⟨Q2 _,e⟩,F0 (by omega)];simp[Addr.add]
 exact propext ⟨fun⟨v,a,b⟩=>by rw[d] at a;cases a;exact b,fun a=>⟨_,d,a⟩⟩
def AST {ob:Nat}{s c:Bs}{bv:Vz}(b:LzB s bv c r)(w:AN (lz ob s bv c.length+(r+x)) h)(a:0<s.length)(K:Q (str c) h):AL9 (Pt ob) h Q:=by
 have d:=b.len;unfold AL9 AW;cases b with
 | no h1 h2=>
  simp (disch:=omega) only[go_sem,AC w,Option.isNone_none];rw[h2];exact K
 | yes h1 h2 h3=>
  simp (disch:=omega) only[go_sem,AC w,Ve];rw[AFF w (by omega),I5,h3];exact K
def elems:Bs->List Bs
 | []=>[[]]
 | b::l=>if b=47 then []::elems l else match elems l with|e::es=>(b::e)::es|[]=>[[b]]
def joinL:List Bs->Bs
 | []=>[]
 | [e]=>e
 | e::f::r=>e++47::joinL (f::r)
def meet (st:List Bs)(e:Bs):List Bs:=if e=[]\/e=[46] then st else if e=[46,46] then st.dropLast else st++[e]
def cleanR (p:Bs):List Bs:=(elems p).foldl meet []
def QS {e:Bs}(f:∀ c∈e,c≠47):∀ l:Bs,(l=[]->elems (e++l)=[e])/\(∀ t,l=47::t->elems (e++l)=e::elems t):=by
 induction e with
 | nil=>intro l;exact⟨fun h=>by subst h;rfl,fun t h=>by subst h;simp[elems]⟩
 | cons b e i=>
  intro l;have d:b≠47:=f b (T0 ..);have a:=i (fun c g=>f c (U0 _ g)) l;refine⟨fun h=>?_,fun t h=>?_⟩
  ·rw[Y5,elems,F0 d,a.1 h]
  ·rw[Y5,elems,F0 d,a.2 t h]
theorem Kf {e:Bs}:∀ {st:List Bs},st≠[]->joinL (st++[e])=joinL st++47::e
 | [],h=>absurd rfl h
 | [a],_=>rfl
 | a::b::r,_=>by
  have:=Kf (e:=e) (st:=b::r) (by simp);simp only[Y5,joinL] at this ⊢;rw[this];simp
def Ot {st:List Bs}(h:st≠[])(c:∀ e∈st,e≠[]):joinL st≠[]:=by
 match st with
 | []=>exact absurd rfl h
 | [a]=>exact c a (by simp)
 | a::b::r=>simp[joinL]
structure Cl (p:Bs) (r:Nat) (st:List Bs):Prop where
 r1:1<=r
 rn:r<=p.length
 ne:∀ e∈st,e≠[]/\∀ c∈e,c≠47
 le:(47::joinL st).length<=r
 at_:st≠[]->(47::joinL st).length=r->r=p.length\/p[r]? = some 47
 ends:(elems (p.drop r)).foldl meet st=cleanR (p.drop 1)
def o7 (l:Bs):∃ e t,l=e++t/\(∀ c∈e,c≠47)/\(t=[]\/∃ t',t=47::t'):=by
 induction l with
 | nil=>exact⟨[],[],rfl,by simp,.inl rfl⟩
 | cons b l j=>
  obtain⟨e,t,f,g,i⟩:=j;by_cases d:b=47
  ·exact⟨[],b::l,rfl,by simp,.inr ⟨l,by rw[d]⟩⟩
  ·refine⟨b::e,t,by rw[f];rfl,?_,i⟩;intro c a;rcases I1.1 a with rfl|a
   ·exact d
   ·exact g c a
def o5 {e t:Bs}{st:List Bs}(a:∀ c∈e,c≠47)(b:t=[]\/∃ t',t=47::t'):(elems (e++t)).foldl meet st=(elems t).foldl meet (meet st e):=by
 rcases b with rfl|⟨t',rfl⟩
 ·rw[(QS a []).1 rfl];simp[elems,meet]
 ·rw[(QS a _).2 t' rfl];simp[elems,meet]
def QI {ob:Nat}{p c A e:Bs}{bv:Vz}{rec1:Vz->Vz->H->Prop}{v3 v4 t:Vz}{wv:Nat}(b:LzB p bv c r)(w:AN (lz ob p bv wv+(r+x)) h)
  (a:(A=[]/\c=47::e)\/(1<A.length/\c=A++47::e)) (o:∀ d∈e,d≠47) (j:max 1 A.length<=wv) (l:wv<c.length) (hp:p.length<9223372036854775808)
  (K:∀ h,AN (lz ob p bv (max 1 A.length)+(r+x)) h->rec1 t AX h):Wa Q rec1 (str p) v3 v4 (Pt ob) t AX  h:=by
 have ae:=b.len;unfold Wa;refine ANW ⟨fun m n=>max 1 A.length<=m/\m<c.length/\AN (lz ob p bv m+(r+x)) n,⟨wv,j,l,w⟩,?_⟩;rintro m n ⟨v,h2,w⟩;unfold WX BL;simp (disch:=omega) only[go_sem,AC w];refine Ct (fun q=>?_) (fun q=>?_)
 ·obtain⟨u,f⟩:∃ u,c[m]? = some u:=⟨_,B0 h2⟩;refine AF3 (ASS b w f ?_);rw[bc];simp only[go_sem];refine AS (fun s=>?_) (fun s=>?_)
  ·unfold um AW;simp (disch:=omega) only[go_sem,AC w];refine AD w ⟨[str p,bv,AB ((m-1:Nat):Int)]⟩ rfl rfl (by simp) rfl fun h w=>?_;have ao:m≠max 1 A.length:=by
    rintro rfl;rcases a with⟨rfl,a⟩|⟨hA,a⟩
    ·simp at q
    ·rw[Nat.max_eq_right (by omega),a,X1 (I0 _)] at f;simp at f;subst f;exact s rfl
   exact⟨m-1,by omega,by omega,by omega,w⟩
  ·have g:u=47:=J6.1 (show u.toNat=47 by omega);subst g;have i:m=max 1 A.length:=by
    rcases a with⟨rfl,a⟩|⟨hA,a⟩
    ·exfalso;rw[a] at f;have aj:1<m:=by omega
     rw[show m=(m-1)+1 by omega,Y4] at f;exact o _ (D1 f) rfl
    ·rw[Nat.max_eq_right (by omega)] at v ⊢;rcases P5 A.length m with ai|ah
     ·exfalso;rw[a,X1 (by omega),show m-A.length=(m-A.length-1)+1 by omega,Y4] at f;exact o _ (D1 f) rfl
     ·omega
   subst i;exact K _ w
 ·have:m=max 1 A.length:=by omega
  subst this;exact K _ w
def QP {ob:Nat}{p c e t:Bs}{bv:Vz}{rec1:Vz->Vz->H->Prop}{n v4:Nat}(hn:v4=p.length)(b:LzB p bv c r)(w:AN (lz ob p bv c.length+(r+x)) h)
  (hd:p.drop n=e++t) (he:∀ d∈e,d≠47) (ht:t=[]\/∃ t',t=47::t') (ai:c.length<=n) (aj:n<=p.length) (hp:p.length<=140737488355328)
  (K:∀ bv r h,LzB p bv (c++e) r->AN (lz ob p bv (c++e).length+(r+x)) h->rec1 (AB ((n+e.length:Nat):Int))  AX h):Wb Q rec1 (str p)  AI  (AB (v4:Nat)) (Pt ob)  AX (AB (n:Nat)) h:=by
 unfold Wb;have o:n+e.length+t.length=p.length:=by
  have:=J3 List.length hd;simp only[J2,C0] at this;omega
 refine ADq ⟨fun m v h'=>∃ i bv r,i<=e.length/\m=e.length-i/\v=AB ((n+i:Nat):Int)/\LzB p bv (c++e.take i) r/\AN (lz ob p bv (c++e.take i).length+(r+x)) h',⟨e.length,0,bv,r,Q2 _,rfl,rfl,by simpa using b,by simpa using w⟩,?_⟩;rintro m v h' ⟨i,bv,r,hi,rfl,rfl,b,w⟩;unfold WY BL;simp (disch:=omega) only[go_sem];have l:∀ j,p[n+j]? = (e++t)[j]?:=fun j=>by rw[<-hd,Q3]
 refine Ct (fun s=>?_) (fun s=>?_)
 ·rcases P5 i e.length with f|f
  ·obtain⟨u,hu⟩:∃ u,e[i]? = some u:=⟨_,B0 f⟩;have g:p[n+i]? = some u:=by rw[l,Z1 f,hu]
   have q:u≠47:=he u (D1 hu);have ah:u.toNat≠47:=fun hx=>q (J6.1 hx);rw[DA g,bc];simp (disch:=omega) only[go_sem,H0];rw[DA g];refine SI (AN5 b w (by simp;omega) hp fun bv r h b w=>?_);have ae:c++e.take i++[u]=c++e.take (i+1):=by
    rw[P0,O3,hu];rfl
   rw[ae] at b w;exact⟨e.length-(i+1),by omega,i+1,bv,r,f,rfl,rfl,b,w⟩
  ·have a:i=e.length:=by omega
   subst a;rcases ht with rfl|⟨t',rfl⟩
   ·simp at o;omega
   ·have g:p[n+e.length]? = some 47:=by rw[l,X1 (I0 _)];simp
    rw[DA g,bc];rw[show (47:UInt8).toNat=47 from rfl];simp (disch:=omega) only[go_sem,J0];rw[L1] at b w;exact K _ _ _ b w
 ·have a:i=e.length:=by omega
  subst a;rw[L1] at b w;exact K _ _ _ b w
def BA {d:BuildKind}{z:Option Vz}{zv:Vz}{l rs:List Vz}{parts:List (Nat×Vz)}(c:z=some zv)(a:zv.cells=⟨l⟩)(b:Du (DB d) l parts=some rs)(K:k (.agg ⟨rs⟩)):An d z parts k:=
 ⟨zv,⟨rs⟩,c,by rw[a];exact EE _ _ _ b,K⟩
def mh:Am TP 295=some (.agg ⟨[str [],.slice none 0 0,AB 0]⟩):=by kernel_rfl
def AV {z:Option Vz}{zv:Vz}{l:List Vz}{T:Tj}(w:AN x h)(c:z=some zv)(a:zv.cells=⟨l⟩)(K:∀ b h,AN (pts b (.cells ⟨l⟩ T (0,0))+x) h->kt (Pt b) h):Ak z T h kt:=by
 rw[c];unfold Ak;dsimp only;rw[a];exact BG w K
def Cl.slash {p:Bs}{r:Nat}{st:List Bs}(c:Cl p r st)(b:r<p.length)(a:p[r]? = some 47):Cl p (r+1) st:=by
 refine⟨by omega,b,c.ne,by have:=c.le;omega,fun _ e=>by have:=c.le;omega,?_⟩;have d:p.drop r=47::p.drop (r+1):=by rw[N3 b];congr 1;rw[B0 b] at a;exact V0 a
 have:=c.ends;rw[d] at this;simpa[elems,meet] using this
def Cl.elem {p e t:Bs}{r:Nat}{st:List Bs}(c:Cl p r st)(a:p.drop r=e++t)(f:∀ d∈e,d≠47)(g:t=[]\/∃ t',t=47::t'):(elems (p.drop (r+e.length))).foldl meet (meet st e)=cleanR (p.drop 1):=by
 have b:p.drop (r+e.length)=t:=by rw[<-H5,a,List.drop_left'];rfl
 rw[b,<-o5 f g,<-a];exact c.ends
def ti {p e t:Bs}{f:Nat}{C:Vz->Prop}(m:p.drop f=e++t)(he:∀ d∈e,d≠47)(ht:t=[]\/∃ t',t=47::t')(l:e≠[])(hp:p.length<=140737488355328)(K:C (.bool (decide (e=[46])))) :
  Ef (str p) (AB (f:Int)) fun o=>AQ .eql o (.int .u8 46) fun q=>CR q true (CR (.bool (decide (((f+1:Nat):Int)=(p.length:Int)))) false (Ef (str p) (AB ((f+1:Nat):Int)) fun s=>AQ .eql s (.int .u8 47) fun v=>C v) (C  AI)) (C  AE):=by
 have g:∀ j,p[f+j]? = (e++t)[j]?:=fun j=>by rw[<-m,Q3]
 have i:f+e.length+t.length=p.length:=by
  have:=J3 List.length m;have:f<=p.length:=by
   rcases P5 p.length f with h|h
   ·rw[C5 (by omega)] at m;exact absurd (List.append_eq_nil_iff.1 m.symm).1 l
   ·exact h
  simp only[J2,C0] at *;omega
 match e,l with
 | a::e',_=>
  have h0:p[f]? = some a:=by have:=g 0;simpa using this
  rw[DA h0,bc];simp (disch:=omega) only[go_sem];refine Ct (fun w=>?_) (fun w=>?_)
  ·have n:a=46:=J6.1 (show a.toNat=46 by omega);subst n;simp only[J1] at i;refine Cj (fun hn=>?_) (fun hn=>?_)
   ·obtain⟨u,hu⟩:∃ u,p[f+1]? = some u:=⟨_,B0 (by omega)⟩;rw[DA hu,bc];simp only[go_sem];have c:=g 1;rw[hu] at c;have:decide ((u.toNat:Int)=47)=decide ((46:UInt8)::e'=[46]):=by
     cases e' with
     | nil=>
      rcases ht with rfl|⟨t',rfl⟩
      ·simp at i;omega
      ·simp at c;subst c;rfl
     | cons b ae=>
      simp at c;subst c;have:u≠47:=he u (by simp);have h2:¬((u.toNat:Int)=47):=fun hx=>this (J6.1 (show u.toNat=47 by omega));simp[h2]
    rw[this];exact K
   ·have:e'=[]:=X4.1 (by omega);subst this;simpa using K
  ·have:decide (a::e'=[46])=false:=by
    simp only[decide_eq_false_iff_not];rintro h';cases h';exact w rfl
   rw[this] at K;exact K
def oo {p e t:Bs}{f:Nat}{C:Vz->Prop}(s:p.drop f=e++t)(he:∀ d∈e,d≠47)(ht:t=[]\/∃ t',t=47::t')(n:e≠[])(m:e≠[46])(hp:p.length<=140737488355328)(K:C (.bool (decide (e=[46,46])))) :
  Ef (str p) (AB (f:Int)) fun ah=>AQ .eql ah (.int .u8 46) fun ai=>CR ai true (Ef (str p) (AB ((f+1:Nat):Int)) fun aj=>AQ .eql aj (.int .u8 46) fun ao=>CR ao true (CR (.bool (decide (((f+2:Nat):Int)=(p.length:Int)))) false (Ef (str p) (AB ((f+2:Nat):Int)) fun o=>AQ .eql o (.int .u8 47) fun q=>C q) (C  AI)) (C AE )) (C  AE ):=by
 have g:∀ j,p[f+j]? = (e++t)[j]?:=fun j=>by rw[<-s,Q3]
 have l:f+e.length+t.length=p.length:=by
  have:=J3 List.length s;have:f<=p.length:=by
   rcases P5 p.length f with h|h
   ·rw[C5 (by omega)] at s;exact absurd (List.append_eq_nil_iff.1 s.symm).1 n
   ·exact h
  simp only[J2,C0] at *;omega
 match e,n with
 | a::e',_=>
  have h0:p[f]? = some a:=by have:=g 0;simpa using this
  rw[DA h0,bc];simp (disch:=omega) only[go_sem];refine Ct (fun ha=>?_) (fun ha=>?_)
  ·have w:a=46:=J6.1 (show a.toNat=46 by omega);subst w
   match e',m with
   | [],h=>exact absurd rfl h
   | b::e'',_=>
    simp only[J1] at l;have h1:p[f+1]? = some b:=by have:=g 1;simpa using this
    rw[DA h1,bc];simp (disch:=omega) only[go_sem];refine Ct (fun hb=>?_) (fun hb=>?_)
    ·have ae:b=46:=J6.1 (show b.toNat=46 by omega);subst ae;refine Cj (fun hn=>?_) (fun hn=>?_)
     ·obtain⟨u,hu⟩:∃ u,p[f+2]? = some u:=⟨_,B0 (by omega)⟩;rw[DA hu,bc];simp only[go_sem];have i:=g 2;rw[hu] at i;have:decide ((u.toNat:Int)=47)=decide ((46:UInt8)::46::e''=[46,46]):=by
       cases e'' with
       | nil=>
        rcases ht with rfl|⟨t',rfl⟩
        ·simp at l;omega
        ·simp at i;subst i;rfl
       | cons c e3=>
        simp at i;subst i;have:u≠47:=he u (by simp);have h2:¬((u.toNat:Int)=47):=fun hx=>this (J6.1 (show u.toNat=47 by omega));simp[h2]
      rw[this];exact K
     ·have:e''=[]:=X4.1 (by omega);subst this;simpa using K
    ·have:decide ((46:UInt8)::b::e''=[46,46])=false:=by
      simp only[decide_eq_false_iff_not];rintro v;cases v;exact hb rfl
     rw[this] at K;exact K
  ·have:decide (a::e'=[46,46])=false:=by
    simp only[decide_eq_false_iff_not];rintro v;cases v;exact ha rfl
   rw[this] at K;exact K
def AGu {st:List Bs}{e:Bs}(b:∀ e∈st,e≠[]/\∀ c∈e,c≠47)(g:∀ c∈e,c≠47):∀ f∈meet st e,f≠[]/\∀ c∈f,c≠47:=by
 intro f a;unfold meet at a;split at a
 ·exact b f a
 ·split at a
  ·exact b f (List.dropLast_subset _ a)
  ·rename_i d i;rcases N4.1 a with a|a
   ·exact b f a
   ·simp only[H4] at a;subst a;exact⟨fun h=>d (.inl h),g⟩
def AR6 {q:Bs}(w:AN x h)(hp:q.length<140737488355328)(K:∀ h,AN x h->(joinL (cleanR q)).length<=q.length->(∀ e∈cleanR q,e≠[]/\∀ c∈e,c≠47)->Q (str (47::joinL (cleanR q))) h):ALO (str (47::q)) h Q:=by
 obtain⟨p,hpq⟩:∃ p,p=47::q:=⟨_,rfl⟩;rw[<-hpq];have hplen:p.length=q.length+1:=by rw[hpq];rfl
 have hp0:p[0]? = some 47:=by rw[hpq];rfl
 have hd1:p.drop 1=q:=by rw[hpq];rfl
 have hidx:∀ k,Ef (str p)  AF  k=k (bc 47):=fun k=>DA (n:=0) hp0;unfold ALO AW;simp (disch:=omega) only[go_sem];rw[show decide (p=[])=false by rw[hpq];rfl];simp only[go_sem];rw[hidx,bc,show (47:UInt8).toNat=47 from rfl];simp (disch:=omega) only[go_sem,H0];refine BA mh rfl rfl (AV w mh rfl fun ob h w=>?_);refine AD w ⟨[str p,.slice none 0 0,AB ((0:Nat):Int)]⟩ rfl rfl (by simp) rfl fun h w=>?_;refine SI (AN5 (s:=p) (c:=[]) (u:=47) (x:=x) (.no (by simp) (by simp)) (w.cast (by rw[Res.zero_add];rfl)) (by simp;omega) (by omega) fun bv br h b w=>?_);unfold ur ut AW;refine DF (fun m v6 v7 h'=>∃ rr st bv br,m=p.length-rr/\v6=AB (rr:Nat)/\v7=AB 1/\Cl p rr st/\LzB p bv (47::joinL st) br/\AN (lz ob p bv (47::joinL st).length+(br+x)) h') (p.length-1)
  ⟨1,[],bv,br,rfl,rfl,rfl,⟨I0 _,by omega,by simp,by simp[joinL],by simp,rfl⟩,b,w⟩ ?_
 rintro rec m v6 v7 h' ⟨rr,st,bv,br,rfl,rfl,rfl,C,b,w⟩ hrec;have hrn:=C.rn;unfold WW BL;simp (disch:=omega) only[go_sem];refine AS (fun hlt=>?_) (fun hlt=>?_)
 ·obtain⟨u,hu⟩:∃ u,p[rr]? = some u:=⟨_,B0 (by omega)⟩;rw[DA hu,bc];simp (disch:=omega) only[go_sem];refine AS (fun h47=>?_) (fun h47=>?_)
  ·have hu47:u=47:=J6.1 (show u.toNat=47 by omega);subst hu47;exact hrec (p.length-(rr+1)) _ _ _ ⟨rr+1,st,bv,br,rfl,rfl,rfl,C.slash (by omega) hu,b,w⟩ (by omega)
  ·obtain⟨e,t,hd,he,ht⟩:=o7 (p.drop rr);have hlen:rr+e.length+t.length=p.length:=by
    have:=J3 List.length hd;simp only[J2,C0] at this;omega
   have hene:e≠[]:=by
    rintro rfl;have h0:p[rr]? = t[0]?:=by
     have:=J3 (·[0]?) hd;simpa using this
    rcases ht with rfl|⟨t',rfl⟩
    ·simp at h0;omega
    ·rw[hu] at h0;simp at h0;subst h0;exact h47 rfl
   have hel:0<e.length:=K6.2 hene;have hends:=C.elem hd he ht;have hmn:=AGu C.ne he;refine ti hd he ht hene (by omega) ?_;unfold uq AW;by_cases h46:e=[46]
   ·rw[H0 h46];simp (disch:=omega) only[go_sem];refine hrec (p.length-(rr+1)) _ _ _ ⟨rr+1,st,bv,br,rfl,rfl,rfl,⟨by omega,by omega,C.ne,by have:=C.le;omega,fun _ hh=>by have:=C.le;omega,?_⟩,b,w⟩ (by omega);rw[h46] at hends;simpa[meet] using hends
   ·rw[J0 h46];simp (disch:=omega) only[go_sem];refine oo hd he ht hene h46 (by omega) ?_;unfold uo AW;by_cases h2:e=[46,46]
    ·rw[H0 h2];have hel2:e.length=2:=by rw[h2];rfl
     rw[hel2] at hends;have hmeet:meet st e=st.dropLast:=by rw[h2];simp[meet]
     rw[hmeet] at hends hmn;simp (disch:=omega) only[go_sem,AC w];refine AS (fun hw=>?_) (fun hw=>?_)
     ·have hst:st≠[]:=by rintro rfl;simp[joinL] at hw
      obtain⟨st',f,rfl⟩:∃ st' f,st=st'++[f]:=⟨st.dropLast,st.getLast hst,(List.dropLast_concat_getLast hst).symm⟩;have hf:=C.ne f (by simp);rw[List.dropLast_concat] at hends hmn;have hfl:0<f.length:=K6.2 hf.1;have hbl:=b.len;simp only[J1] at hbl;simp (disch:=omega) only[go_sem,J1];refine AD w ⟨[str p,bv,AB ((((47::joinL (st'++[f])).length-1:Nat)):Int)]⟩ (by simp only[J1];rfl) rfl (by simp) rfl fun h w=>?_;have hle:=C.le;by_cases hs':st'=[]
      ·subst hs';refine QI (A:=[]) (e:=f) b w (.inl ⟨rfl,rfl⟩) hf.2 (by simp[joinL];omega) (by simp) (by omega) fun h w=>?_;refine hrec (p.length-(rr+2)) _ _ _ ⟨rr+2,[],bv,br,rfl,rfl,rfl,⟨by omega,by omega,by simp,by simp[joinL];try omega,by simp,hends⟩,b.cut 1,w⟩ (by omega)
      ·have hj:=Kf (e:=f) hs';have hjn:=K6.2 (Ot hs' (fun e he=>(hmn e he).1));refine QI (A:=47::joinL st') (e:=f) b w (.inr ⟨by simp;try omega,by rw[hj];rfl⟩) hf.2 (by rw[hj];simp;try omega) (by simp) (by omega) fun h w=>?_;rw[hj] at hle;simp only[J1,C0] at hle;rw[Nat.max_eq_right (by simp)] at w;refine hrec (p.length-(rr+2)) _ _ _ ⟨rr+2,st',bv,br,rfl,rfl,rfl,⟨by omega,by omega,hmn,by simp;omega,fun _ hh=>by simp at hh;omega,hends⟩,?_,w⟩ (by omega);have:=b.cut (47::joinL st').length;rw[hj,<-Y5,List.take_left'] at this
       ·exact this
       ·rfl
     ·have hst:st=[]:=by
       by_cases hs:st=[]
       ·exact hs
       ·have:=K6.2 (Ot hs (fun e he=>(C.ne e he).1));simp only[J1] at hw;omega
      subst hst;refine hrec (p.length-(rr+2)) _ _ _ ⟨rr+2,[],bv,br,rfl,rfl,rfl,⟨by omega,by omega,by simp,by simp[joinL];try omega,by simp,hends⟩,b,w⟩ (by omega)
    ·rw[J0 h2];have hmeet:meet st e=st++[e]:=by simp[meet,hene,h46,h2]
     rw[hmeet] at hends hmn;simp (disch:=omega) only[go_sem,AC w];have hle:=C.le;refine Cj (fun hw=>?_) (fun hw=>?_)
     ·have hst:st=[]:=by
       by_cases hs:st=[]
       ·exact hs
       ·have:=K6.2 (Ot hs (fun e he=>(C.ne e he).1));simp only[J1] at hw;omega
      subst hst;unfold WZ AW;refine QP rfl b w hd he ht hle hrn (by omega) fun bv br h b w=>?_;refine hrec (p.length-(rr+e.length)) _ _ _ ⟨rr+e.length,[e],bv,br,rfl,rfl,rfl,⟨by omega,by omega,hmn,?_,fun _ hh=>?_,hends⟩,b,w⟩ (by omega)
      ·simp only[joinL,J1] at hle ⊢;omega
      ·rcases ht with rfl|⟨t',rfl⟩
       ·left;simp at hlen;omega
       ·right;have:=J3 (·[e.length]?) hd;simp only[Q3] at this;rw[this,X1 (I0 _)];simp
     ·have hst:st≠[]:=by rintro rfl;simp[joinL] at hw
      have hj:=Kf (e:=e) hst;have hlt2:(47::joinL st).length<rr:=by
       rcases P5 (47::joinL st).length rr with h|h
       ·exact h
       ·rcases C.at_ hst (by omega) with h'|h'
        ·omega
        ·rw[hu] at h';cases h';exact absurd rfl h47
      refine SI (AN5 (u:=47) b w (by omega) (by omega) fun bv br h b w=>?_);unfold WZ AW;refine QP rfl b w hd he ht (by simp at hlt2 ⊢;omega) hrn (by omega) fun bv br h b w=>?_;have hcc:47::joinL st++[47]++e=47::joinL (st++[e]):=by rw[hj];simp
      rw[hcc] at b w;refine hrec (p.length-(rr+e.length)) _ _ _ ⟨rr+e.length,st++[e],bv,br,rfl,rfl,rfl,⟨by omega,by omega,hmn,?_,fun _ hh=>?_,hends⟩,b,w⟩ (by omega)
      ·rw[hj];simp at hlt2 ⊢;omega
      ·rcases ht with rfl|⟨t',rfl⟩
       ·left;simp at hlen;omega
       ·right;have:=J3 (·[e.length]?) hd;simp only[Q3] at this;rw[this,X1 (I0 _)];simp
 ·have hrr:rr=p.length:=by omega
  simp (disch:=omega) only[go_sem,AC w,J1,J0];have:=C.ends;rw[hrr,X6] at this;have hst:st=cleanR q:=by simpa[elems,meet,hd1] using this
  refine AF4 (AST b w (by omega) ?_);have hcl:=C.le;have hcn:=C.ne;rw[hst] at hcl hcn ⊢;exact K _ w.right.right (by simp only[J1] at hcl;omega) hcn
section
structure Nd where
 num:Nat
 size:Nat
 at_:Nat
 ct:Nat
 mt:Nat
 cr:Nat
 en:Nat
 uid:Nat
 gid:Nat
 ek:Nat
 xblk:Nat
 bu:Nat
 d7:Nat
 d8:Nat
 ed:Nat
 data:Vz
 ck:Bs
 dr:Res
 ff:Vz
 fe:Bs
 xr:Res
 dir:Option (Nat×List (Bs×Nat))
abbrev Nd.kids (n:Nd):Vz:=.map (n.dir.map (·.1))
abbrev Nd.cells (n:Nd):Array Vz:=⟨[AB n.size,AH n.at_,AH n.ct,AH n.mt,AH n.cr,AM n.num,cU16 n.en,AM n.uid,AM n.gid,AM n.ek,AM n.xblk,AM n.bu,AM n.d7,AM n.d8,AM n.ed,n.data,n.ff,n.kids]⟩
abbrev De (ad:Nat->Nat)(es:List (Bs×Nat)):Obj:=.map (DK (fun c=>Pt (ad c)) es) es.length
def Nd.kr (ad:Nat->Nat)(n:Nd):Res:=match n.dir with|some (mb,es)=>pts mb (De ad es)|none=>0
abbrev Nd.res (ad:Nat->Nat)(n:Nd):Res:=pts (ad n.num) (.cells n.cells 197 (0,0))+(n.dr+(n.xr+n.kr ad))
def ndR (ad:Nat->Nat):Option Nd->Res
 | some n=>n.res ad
 | none=>0
def sumR (ad:Nat->Nat):List (Option Nd)->Res
 | []=>0
 | o::l=>ndR ad o+sumR ad l
def ptrO (ad:Nat->Nat):Option Nd->Vz
 | some n=>Pt (ad n.num)
 | none=>.pointer none
theorem Pi (ad:Nat->Nat)(o:Option Nd):∀ (L:List (Option Nd)) (i:Nat),i<L.length->sumR ad (L.set i o)=ndR ad o+sumR ad (L.set i none)
 | [],i,h=>by simp at h
 | a::l,0,_=>by simp[sumR,ndR,Res.zero_add]
 | a::l,i+1,h=>by
  simp only[List.set_cons_succ,sumR];rw[Pi ad o l i (by simpa using h),Res.left_comm]
def Gc {ad:Nat->Nat}{L:List (Option Nd)}{i:Nat}{n:Nd}(h:L[i]? = some (some n)):sumR ad L=n.res ad+sumR ad (L.set i none):=by
 have b:=(G0.1 h).1;have:=Pi ad (some n) L i b;have c:L.set i (some n)=L:=by
  apply O4;intro j;rw[G4];by_cases a:i=j
  ·subst a;rw[D0 rfl,D0 b,h]
  ·simp[a]
 rw[c] at this;exact this
structure FOK (s:WS) (ad:Nat->Nat) (L:List (Option Nd)) (tr:Res):Prop where
 ws:s.OK
 vec:Vec 182 1 s.inv L.length (L.map (ptrO ad)) tr
 num:∀ (i:Nat) (n:Nd),L[i]? = some (some n)->n.num=i+1
 nd:∀ (i:Nat) (n:Nd),L[i]? = some (some n)->BufV n.data n.ck n.dr/\BufV n.ff n.fe n.xr/\n.en<65536/\n.ek<100000/\n.ed<4294967296
 kid:∀ (i:Nat) (n:Nd) mb es,L[i]? = some (some n)->n.dir=some (mb,es)->∀ e∈es,1<=e.2/\∃ c,L[e.2-1]? = some (some c)
 len:L.length<=10000
abbrev FR (s:WS)(ad:Nat->Nat)(L:List (Option Nd))(tr:Res):Res:=s.res+(tr+sumR ad L)
def CF {T:Tj}{v:Vz}{n i:Nat}{kk:Iq}{vs:List Vz}{u:Vz}(d:Vec T 1 v n vs r)(w:AN (r+x) h)(e:vs[i]? = some u)(K:k u):Ap (.slice 1) v (.int kk (i:Int)) fun a=>Ae false 1 a h k:=by
 have g:=d.len.2;have hi:i<vs.length:=(G0.1 e).1;cases d with
 | nil=>simp at hi
 | own j f=>
  rename_i b c all;rw[Dq (by omega),U1,AC w];have:(⟨all⟩:Array Vz)[i]? = some u:=by
   rw[I2] at e;split at e
   ·simpa using e
   ·cases e
  rw[this];exact K
def KV (ad:Nat->Nat)(L:List (Option Nd))(i:Nat):Vz:=match L[i-1]? with|some o=>ptrO ad o|none=>.pointer none
def ANi {s:WS}{ad:Nat->Nat}{L:List (Option Nd)}{tr:Res}{i:Nat}(ok:FOK s ad L tr)(w:AN (FR s ad L tr+x) h)(l:1<=i)(m:i<4294967296)(K:Q (KV ad L i) h):vp (Pt s.wb) (AM (i:Int)) h Q:=by
 have b:=ok.len;obtain⟨⟨a,c,g⟩,j⟩:=ok.vec.len;unfold vp AW;simp (disch:=omega) only[go_sem,AC w,J0];rw[g];simp (disch:=omega) only[go_sem];refine AS (fun e=>?_) (fun e=>?_)
 ·have:L[i-1]? = none:=D3 (by omega);unfold KV at K;rw[this] at K;exact K
 ·unfold vt AW;simp (disch:=omega) only[go_sem,AC w];obtain⟨o,d⟩:∃ o,L[i-1]? = some o:=⟨_,B0 (by omega)⟩;have f:KV ad L i=ptrO ad o:=by unfold KV;rw[d]
  rw[f] at K;exact CF (x:=s.res+(sumR ad L+x)) ok.vec (w.cast (by unfold FR;ac_rfl)) (by rw[Y0,d];rfl) K
def APf {s:WS}{ad:Nat->Nat}{L:List (Option Nd)}{tr:Res}(ok:FOK s ad L tr)(w:AN (FR s ad L tr+x) h)(K:Q (KV ad L 2) h):AFe (Pt s.wb) h Q:=by
 unfold AFe AW;exact Rm (ANi (i:=2) ok w (by omega) (by omega) K)
def RW {kk:Iq}{a m:Nat}(c:a<2^kk.bits)(i:m<2^kk.bits)(g:kk.signed=false):AQ .and (.int kk (a:Int)) (.int kk (m:Int)) k=k (.int kk ((a &&& m:Nat):Int)):=by
 have e:(BitVec.ofInt kk.bits (a:Int) &&& BitVec.ofInt kk.bits (m:Int)).toNat=a &&& m:=by
  simp only[BitVec.toNat_and,BitVec.ofInt_natCast,BitVec.toNat_ofNat,C2 c,C2 i]
 have f:a &&& m<2^kk.bits:=U6 O7 c;have d:DO .and (.int kk (a:Int)) (.int kk (m:Int))=some (.int kk ((a &&& m:Nat):Int)):=by
  simp only[DO,if_true,e];rw[ZK g (by omega) (by exact_mod_cast f)]
 exact propext ⟨fun⟨v,a,b⟩=>by rw[d] at a;cases a;exact b,fun a=>⟨_,d,a⟩⟩
def Jh {a m:Nat}(b:a<65536)(c:(OfNat.ofNat m:Int)<65536):AQ .and (cU16 (a:Int)) (cU16 (no_index (OfNat.ofNat m:Int))) k=k (cU16 ((a &&& m:Nat):Int)):=
 RW (kk:=.u16) b (S7.1 c) rfl
def ZS {a m:Nat}(b:a<4294967296)(c:(OfNat.ofNat m:Int)<4294967296):AQ .and (AM (a:Int)) (AM (no_index (OfNat.ofNat m:Int))) k=k (AM ((a &&& m:Nat):Int)):=
 RW (kk:=.u32) b (S7.1 c) rfl
attribute [go_sem] Jh ZS
def kindB (m:Nat):Nat:=m &&& 61440
def AR5 {b:Nat}{n:Nd}(w:AN x h)[Be b x (.cells n.cells 197 (0,0))](a:n.en<65536)(K:Q (cU16 (kindB n.en:Nat)) h):ALN (Pt b) h Q:=by
 unfold ALN AW;simp (disch:=omega) only[go_sem,AC w];exact K
def s93 {b:Nat}{n:Nd}(w:AN x h)[Be b x (.cells n.cells 197 (0,0))](a:n.en<65536)(K:Q (.bool (decide (kindB n.en=16384))) h):f93 (Pt b) h Q:=by
 unfold f93 AW;refine AFb (AR5 w a ?_);simp only[go_sem];have:decide ((kindB n.en:Int)=16384)=decide (kindB n.en=16384):=decide_eq_decide.2 (by omega);rw[this];exact K
end
def EZ (L:List (Option Nd))(c:Nat)(nm:Bs):Option Nat:=match L[c-1]? with
 | some (some n)=>match n.dir with|some (_,es)=>lookE es nm|none=>none
 | _=>none
def walk (L:List (Option Nd)):Nat->List Bs->Option Nat
 | c,[]=>some c
 | c,e::es=>(EZ L c e).bind fun d=>walk L d es
def AFA (L:List (Option Nd))(c:Nat):Prop:=1<=c/\∃ n,L[c-1]? = some (some n)
def s7 {s:WS}{ad:Nat->Nat}{L:List (Option Nd)}{tr:Res}(ok:FOK s ad L tr){c d:Nat}{nm:Bs}(a:EZ L c nm=some d):AFA L d:=by
 unfold EZ at a;split at a
 ·rename_i n g;split at a
  ·rename_i mb es f;obtain⟨b,n',e⟩:=ok.kid _ _ _ _ g f _ (Jt a);exact⟨b,n',e⟩
  ·cases a
 ·cases a
def MB:Am TP 182=some  Au :=by kernel_rfl
def GG {ad:Nat->Nat}{n:Nd}{nm:Bs}(w:AN (n.res ad+x) h)(K:k (match (match n.dir with|some (_,es)=>lookE es nm|none=>none) with|some c=>Pt (ad c)|none=>.pointer none)) :
  IV (some .string) (Am TP 182) false n.kids (str nm) h k:=by
 refine⟨rfl,.pointer none,?_⟩;cases b:n.dir with
 | none=>
  rw[b] at K;exact⟨none,MB,by simp[Nd.kids,b,Lc],K⟩
 | some me=>
  obtain⟨mb,es⟩:=me;rw[b] at K;have g:h[mb]? = some (De ad es):=by
   have:=w.left.right.right.right;unfold Nd.kr at this;rw[b] at this;exact this.one
  obtain⟨q,f,a,_⟩:=Fy (fun c=>Pt (ad c)) nm es 0 0;refine⟨q,MB,?_,?_⟩
  ·unfold Lc Nd.kids;rw[b];simp only[N5,g];exact f
  ·simp only at K;cases e:lookE es nm with
   | none=>
    rw[e] at K a;simp only[Option.map_none,Option.map_eq_none_iff] at a;subst a;exact K
   | some c=>
    rw[e] at K a;simp only[N5,K4] at a;obtain⟨⟨i,v⟩,rfl,d⟩:=a;simp only at d;subst d;exact K
def HP (l:List Bs):Bs:=(l.map (· ++ [47])).flatten
def Jd (e:Bs)(es:List Bs):HP (e::es)=e++47::HP es:=by simp[HP]
def qb {e:Bs}{es:List Bs}(b:∀ c∈e,c≠47):Id (HP (e::es))=(e,HP es):=by
 unfold HP Id;simp only[Q1,List.flatten_cons,P0,List.singleton_append];have a:∀ m:Bs,(e++47::m).takeWhile (· != 47)=e/\(e++47::m).dropWhile (· != 47)=47::m:=by
  intro m
  induction e with
  | nil=>simp
  | cons c l i=>
   have f:(c != 47)=true:=by simpa using b c (T0 ..)
   have:=i (fun d g=>b d (U0 _ g));simp only[Y5,Y8,Z8,f,if_true,this.1,this.2,and_self]
 rw[(a _).1,(a _).2];rfl
def ptrC (ad:Nat->Nat):Option Nat->Vz
 | some c=>Pt (ad c)
 | none=>.pointer none
def Cs {ad:Nat->Nat}{L:List (Option Nd)}{c:Nat}{s:WS}{tr:Res}{n:Nd}(ok:FOK s ad L tr)(b:1<=c)(a:L[c-1]? = some (some n))(w:AN (FR s ad L tr+x) h) :
  AN (n.res ad+(s.res+(tr+(sumR ad (L.set (c-1) none)+x)))) h/\n.num=c:=
 ⟨w.cast (by unfold FR;rw[Gc a];ac_rfl),by have:=ok.num _ _ a;omega⟩
theorem ASN {s:WS}{ad:Nat->Nat}{L:List (Option Nd)}{tr:Res}{c:Nat}{ns:List Bs}{v0:Vz}(ok:FOK s ad L tr)(w:AN (FR s ad L tr+x) h)(hc:AFA L c)(q:∀ e∈ns,∀ b∈e,b≠47)
  (hl:(HP ns).length<9223372036854775807) (K:Q (ptrC ad (walk L c ns)) h):ALy v0 (Pt (ad c)) (str (HP ns)) h Q:=by
 unfold ALy AAC AW;refine DF (fun m v2 v7 u=>∃ (ms:List Bs) (o:Option Nat),m=ms.length/\v2=str (HP ms)/\v7=ptrC ad o/\u=h/\(∀ e∈ms,∀ b∈e,b≠47)/\(HP ms).length<9223372036854775807/\(∀ d,o=some d->AFA L d)/\walk L c ns=o.bind (fun d=>walk L d ms)) ns.length
  ⟨ns,some c,rfl,rfl,rfl,rfl,q,hl,fun d hd=>by cases hd;exact hc,rfl⟩ ?_
 rintro rec m v2 v7 u ⟨ms,o,rfl,rfl,rfl,rfl,a,p,ho,t⟩ i;unfold Xi BL;cases o with
 | none=>
  simp only[ptrC,go_sem];rw[t] at K;exact K
 | some d=>
  simp only[ptrC,go_sem];cases ms with
  | nil=>
   have:HP []=[]:=rfl;rw[this];simp (disch:=omega) only[go_sem,C4,J0];rw[t] at K;exact K
  | cons e es=>
   have v:0<(HP (e::es)).length:=by rw[Jd];simp;omega
   simp (disch:=omega) only[go_sem,H0];unfold AAB AW;refine AFf (AR8 p ?_);rw[qb (a e (by simp))];obtain⟨h1,n,hn⟩:=ho d rfl;obtain⟨w',g⟩:=Cs ok h1 hn w;rw[<-g];simp only[go_sem,AC w'];refine GG w' ?_;have j:EZ L d e=(match n.dir with|some (_,es)=>lookE es e|none=>none):=by
    unfold EZ;rw[hn]
   rw[<-j];refine i es.length _ _ _ ⟨es,EZ L d e,rfl,rfl,?_,rfl,fun f l=>a f (by simp[l]),?_,fun f l=>s7 ok l,?_⟩ (by simp)
   ·cases EZ L d e<;>rfl
   ·have:(HP (e::es)).length=e.length+1+(HP es).length:=by rw[Jd];simp;omega
    omega
   ·rw[t];rfl
theorem Qg {e:Bs}:∀ st:List Bs,joinL (st++[e])=HP st++e
 | []=>rfl
 | [a]=>by simp[joinL,HP]
 | a::b::r=>by
  have:=Qg (e:=e) (b::r);simp only[Y5,joinL] at this ⊢;rw[this,Jd,Jd,Jd];simp only[P0,Y5]
def AEn (st:List Bs):HP st=[]\/∃ a,HP st=a++[47]:=by
 rcases List.eq_nil_or_concat st with rfl|⟨l,e,rfl⟩
 ·left;rfl
 ·right;exact⟨HP l++e,by simp[HP]⟩
theorem s92 {s:WS}{ad:Nat->Nat}{L:List (Option Nd)}{tr:Res}{nm e:Bs}{st:List Bs}{d:Nat}{n:Nd}{must:Bool}(ok:FOK s ad L tr)(w:AN (FR s ad L tr+x) h)(o:AFA L 2)(hl:nm.length<=100000)
  (ae:cleanR nm=st++[e]) (he:e.length<=255) (p:walk L 2 st=some d) (g:L[d-1]? = some (some n)) (aj:1<=d) (t:kindB n.en=16384) (j:must=true->EZ L d e≠none)
  (K:∀ h,AN (FR s ad L tr+x) h->Q (.tuple #[Pt (ad d),ptrC ad (EZ L d e),str e,.nilIface]) h):f92 (Pt s.wb) (str nm) (.bool must) h Q:=by
 unfold f92 AW;refine Zh (APf ok w ?_);obtain⟨_,nr,l⟩:=o;have ao:KV ad L 2=Pt (ad 2):=by
  unfold KV;rw[l];simp only[ptrO];rw[ok.num _ _ l]
 rw[ao];have ah:(Value.string ⟨#[47]⟩)=str [47]:=rfl;rw[ah];simp (disch:=(simp;omega)) only[Jg];refine AFc (AR6 (q:=nm) w (by omega) fun h w u m=>?_);rw[ae,Qg] at u ⊢;rw[ae] at m;have v:(HP st++e).length<=nm.length:=u;simp only[C0] at v;have a:=m e (by simp);have ar:0<e.length:=K6.2 a.1;rw[Vf (by simp)];simp only[R8,I5];simp (disch:=(simp only[C0];omega)) only[go_sem,J0];refine AFd (AR7 (by simp only[C0];omega) ?_);rw[UC a.2 (AEn st)];simp (disch:=omega) only[go_sem,J0];unfold AKb AW;refine AFw (ASN ok w ⟨by omega,nr,l⟩ (fun f hf=>(m f (by simp[hf])).2) (by omega) ?_);rw[p];simp only[ptrC,go_sem];obtain⟨w',b⟩:=Cs ok aj g w;obtain⟨_,_,i,_,_⟩:=ok.nd _ _ g;rw[<-b];refine SR (s93 w' i ?_);rw[H0 t];simp only[go_sem,P3];unfold AKa AW;simp (disch:=omega) only[go_sem,AC w'];refine GG w' ?_;have ai:EZ L d e=(match n.dir with|some (_,es)=>lookE es e|none=>none):=by
  unfold EZ;rw[g]
 rw[<-ai,b];cases hc:EZ L d e with
 | none=>
  simp only[go_sem];have hm:must=false:=by
   cases hm:must with
   | false=>rfl
   | true=>exact absurd hc (j hm)
  rw[hm];rw[hc] at K;simp only[go_sem];exact K h w
 | some c=>
  simp only[go_sem];rw[hc] at K;exact K h w
def Bg (n:Nat):Nat:=(n+3)/4*4
def LX {b o n c i:Nat}{kk:Iq}(hi:(OfNat.ofNat i:Int)<(n:Int)):Ap (.slice 1) (.slice (some ⟨b,o,none⟩) n c) (.int kk (no_index (OfNat.ofNat i:Int))) k=k (.pointer (some ⟨b,o+i,none⟩)):=Dq (S7.1 hi)
def Vb {l m m':Bs}{o:Nat}(h:o+m.length+m'.length<=l.length):setL (setL l o m) (o+m.length) m'=setL l o (m++m'):=by
 apply O4;intro i;rw[Ep (by rw[Ad (by omega)];omega),Ep (by omega),Ep (by simp;omega)]
 grind
def FM {l m m':Bs}{o p:Nat}(a:p=o+m.length)(h:o+m.length+m'.length<=l.length):setL (setL l o m) p m'=setL l o (m++m'):=by subst a;exact Vb h
def ASr {b o n c m:Nat}{all:Bs}{T:Tj}(w:AN (pts b (.cells (bcs all) T (0,0))+x) h)(a:2<=n)(d:o+n<=all.length)(K:∀ h,AN (pts b (.cells (bcs (setL all o (BR m))) T (0,0))+x) h->Q (.tuple #[]) h) :
  AMi (.slice (some ⟨b,o,none⟩) n c) (cU16 (m:Int)) h Q:=by
 unfold AMi AW;simp (disch:=omega) only[go_sem,LX,QK];refine Dc w (by omega) fun h w=>?_;refine Dc w (by rw[Ad (by simp;omega)];omega) fun h w=>K h ?_;have:=Vb (l:=all) (m:=[UInt8.ofNat m]) (m':=[UInt8.ofNat (m/256)]) (o:=o) (by simp;omega);simp only[U3,Y5,U2] at this;rw[Z4,this] at w;exact w
def AN7 {b o n c m:Nat}{all:Bs}{T:Tj}(w:AN (pts b (.cells (bcs all) T (0,0))+x) h)(a:4<=n)(d:o+n<=all.length)(K:∀ h,AN (pts b (.cells (bcs (setL all o (Ag m))) T (0,0))+x) h->Q (.tuple #[]) h) :
  AAc (.slice (some ⟨b,o,none⟩) n c) (AM (m:Int)) h Q:=by
 unfold AAc AW;simp (disch:=omega) only[go_sem,LX,QK];refine Dc w (by omega) fun h w=>?_;refine Dc w (by rw[Ad (by simp;omega)];omega) fun h w=>?_;rw[Z4] at w;rw[FM (p:=o+1) (m:=[UInt8.ofNat m]) (m':=[UInt8.ofNat (m/256)]) (by simp) (by simp;omega)] at w;refine Dc w (by rw[Ad (by simp;omega)];omega) fun h w=>?_;rw[FM (p:=o+2) (m:=[UInt8.ofNat m]++[UInt8.ofNat (m/256)]) (m':=[UInt8.ofNat (m/65536)]) (by simp) (by simp;omega)] at w;refine Dc w (by rw[Ad (by simp;omega)];omega) fun h w=>K h ?_;rw[FM (p:=o+3) (m:=[UInt8.ofNat m]++[UInt8.ofNat (m/256)]++[UInt8.ofNat (m/65536)]) (m':=[UInt8.ofNat (m/16777216)]) (by simp) (by simp;omega)] at w;exact w
abbrev xaC (nm:Bs)(ix:Nat)(v:Vz):Array Vz:=⟨[str nm,.int .u8 ix,v]⟩
def AN4 {b ix:Nat}{nm:Bs}{v:Vz}{T:Tj}(w:AN x h)[Be b x (.cells (xaC nm ix v) T (0,0))](a:nm.length<1000000)(K:Q (AB (Bg nm.length+16:Nat)) h):AL6 (Pt b) h Q:=by
 unfold AL6 AW;simp (disch:=omega) only[go_sem,AC w];exact K
def AQI {b ix n c:Nat}{nm:Bs}{a:Option Addr}{T:Tj}(w:AN x h)[Be b x (.cells (xaC nm ix (.slice a n c)) T (0,0))](d:n<1000000)(K:Q (AB (Bg n:Nat)) h):AMd (Pt b) h Q:=by
 unfold AMd AW;simp (disch:=omega) only[go_sem,AC w];exact K
def Io (a b c d:UInt8):Nat:=((a.toNat ||| b.toNat*256) ||| c.toNat*65536) ||| d.toNat*16777216
def ID (a b c d:UInt8):Io a b c d<4294967296:=by
 unfold Io;have e:=a.toNat_lt;have f:=b.toNat_lt;have g:=c.toNat_lt;have i:=d.toNat_lt;exact Q6 (n:=32) (Q6 (n:=32) (Q6 (n:=32) (by omega) (by omega)) (by omega)) (by omega)
def Pz (hh w:Nat):Nat:=((hh*65536%4294967296) ^^^ (hh/65536)) ^^^ w
def NO (hh:Nat)(c:UInt8):Nat:=((hh*32%4294967296) ^^^ (hh/134217728)) ^^^ c.toNat
def Ju {hh w:Nat}(a:hh<4294967296)(b:w<4294967296):Pz hh w<4294967296:=by
 unfold Pz;exact H7 (n:=32) (H7 (n:=32) (by omega) (by omega)) (by omega)
def AGw {hh:Nat}{c:UInt8}(a:hh<4294967296):NO hh c<4294967296:=by
 unfold NO;have:=c.toNat_lt;exact H7 (n:=32) (H7 (n:=32) (by omega) (by omega)) (by omega)
def ER (hh:Nat):Bs->Nat
 | a::b::c::d::l=>ER (Pz hh (Io a b c d)) l
 | []=>hh
 | [a]=>Pz hh (Io a 0 0 0)
 | [a,b]=>Pz hh (Io a b 0 0)
 | [a,b,c]=>Pz hh (Io a b c 0)
def hashX (nm v:Bs):Nat:=ER (nm.foldl NO 0) v
theorem LR:∀ (l:Bs) (hh:Nat),hh<4294967296->l.foldl NO hh<4294967296
 | [],_,h=>h
 | c::l,hh,h=>LR l _ (AGw h)
def Js {b o:Nat}{l:List Vz}{T:Tj}{fz:Nat×Nat}{c:UInt8}(w:AN x h)[Be b x (.cells ⟨l⟩ T fz)](a:l[o]? = some (bc c)):Ae false 1 (.pointer (some ⟨b,o,none⟩)) h k=k (bc c):=by
 rw[AC w];have:(⟨l⟩:Array Vz)[o]? = some (bc c):=by simpa using a
 rw[this];rfl
def AN3 {b o n c:Nat}{all:List Vz}{T:Tj}{fz:Nat×Nat}{a a1 a2 a3:UInt8}(w:AN x h)[Be b x (.cells ⟨all⟩ T fz)](q:4<=n)(e:all[o]? = some (bc a))(f:all[o+1]? = some (bc a1))(g:all[o+2]? = some (bc a2))(i:all[o+3]? = some (bc a3))
  (K:Q (AM (Io a a1 a2 a3:Nat)) h):AF1 (.slice (some ⟨b,o,none⟩) n c) h Q:=by
 have j:=a.toNat_lt;have l:=a1.toNat_lt;have m:=a2.toNat_lt;have p:=a3.toNat_lt;have e1:a1.toNat*256%4294967296=a1.toNat*256:=C2 (by omega);have e2:a2.toNat*65536%4294967296=a2.toNat*65536:=C2 (by omega);have d:a3.toNat*16777216%4294967296=a3.toNat*16777216:=C2 (by omega);have l1:a.toNat ||| a1.toNat*256<4294967296:=Q6 (n:=32) (by omega) (by omega)
 have l2:(a.toNat ||| a1.toNat*256) ||| a2.toNat*65536<4294967296:=Q6 (n:=32) l1 (by omega)
 unfold AF1 AW;simp (disch:=omega) only[LX,Z4];rw[Js w e];simp (disch:=omega) only[go_sem,bc];rw[Js w f];simp (disch:=omega) only[go_sem,bc,e1];rw[Js w g];simp (disch:=omega) only[go_sem,bc,e2];rw[Js w i];simp (disch:=omega) only[go_sem,bc,d];exact K
def AEa {kk d:Iq}{b o n c i j:Nat}(f:i<=j)(g:j<=c)(l:i≠c):Cf (.slice 1) (.slice (some ⟨b,o,none⟩) n c) (some (.int kk (i:Int))) (some (.int d (j:Int))) k=k (.slice (some ⟨b,o+i,none⟩) (j-i) (c-i)):=by
 have e:Bi (.slice 1) (.slice (some ⟨b,o,none⟩) n c) (some (.int kk (i:Int))) (some (.int d (j:Int)))=some (.slice (some ⟨b,o+i,none⟩) (j-i) (c-i)):=by
  simp only[Bi,DY];rw[D0 ⟨f,g⟩,F0 (fun h=>l h.symm),M5,N5,Cb]
 exact propext ⟨fun⟨v,a,b⟩=>by rw[e] at a;cases a;exact b,fun a=>⟨_,e,a⟩⟩
def mf:Am TP 238=some (.agg ⟨List.replicate 4  BE ⟩):=by kernel_rfl
def p8 {b n:Nat}(d:0<n):Cf (.arr n 1) (Pt b) none none k=k (.slice (some ⟨b,0,none⟩) n n):=by
 have c:Bi (.arr n 1) (Pt b) none none=some (.slice (some ⟨b,0,none⟩) n n):=by
  simp only[Bi,Bb];rw[D0 ⟨Q2 _,I0 _⟩,F0 (by omega)];rfl
 exact propext ⟨fun⟨v,a,b⟩=>by rw[c] at a;cases a;exact b,fun a=>⟨_,c,a⟩⟩
def Ya {hh:Nat}{l:Bs}{f a1 a2 a3:UInt8}(g:0<l.length)(i:l.length<4)(e0:(setL [0,0,0,0] 0 l)[0]? = some f)(e1:(setL [0,0,0,0] 0 l)[1]? = some a1)(e2:(setL [0,0,0,0] 0 l)[2]? = some a2)(e:(setL [0,0,0,0] 0 l)[3]? = some a3) :
  ER hh l=Pz hh (Io f a1 a2 a3):=by
 match l,g,i with
 | [a],_,_=>simp[setL] at e0 e1 e2 e;subst e0 e1 e2 e;rfl
 | [a,b],_,_=>simp[setL] at e0 e1 e2 e;subst e0 e1 e2 e;rfl
 | [a,b,c],_,_=>simp[setL] at e0 e1 e2 e;subst e0 e1 e2 e;rfl
 | a::b::c::d::l,_,h=>simp at h;omega
theorem AQK {v:Vz}{bs:Bs}{hh:Nat}(w:AN x h)(d:RdX x v bs)(hl:bs.length<1000000)(h0:hh<4294967296)(K:∀ h,AN x h->Q (AM (ER hh bs:Nat)) h):YH Q v (AM (hh:Nat)) (AB ((0:Nat):Int)) h:=by
 unfold YH;refine DF (fun m v5 v7 h'=>∃ i g,m=bs.length-i/\i%4=0/\i<=bs.length/\v5=AM (g:Nat)/\v7=AB (i:Nat)/\g<4294967296/\AN x h'/\ER g (bs.drop i)=ER hh bs) bs.length ⟨0,hh,rfl,rfl,Q2 _,rfl,rfl,h0,w,rfl⟩ ?_;rintro rec m v5 v7 h' ⟨i,g,rfl,ai,hi,rfl,rfl,ah,w,he⟩ t;obtain⟨a,c,q⟩:=d.len;unfold YF BL;rw[q];simp (disch:=omega) only[go_sem];have hx:∀ z:Nat,g*65536%4294967296 ^^^ g/65536<4294967296:=fun _=>H7 (n:=32) (by omega) (by omega);have hx:=hx 0;refine AS (fun hc=>?_) (fun hc=>?_)
 ·rcases d with⟨a',c',f,p⟩|⟨b,o,c',all,T,fz,y,f,p,h3,h4,h5⟩
  ·subst p;simp at hc;omega
  ·rw[q] at f;simp only[Value.slice.injEq] at f;obtain⟨rfl,_,rfl⟩:=f;simp (disch:=omega) only[go_sem,AEa];subst p;have hg:∀ j,j<bs.length->all[o+j]? = (bs[j]?).map bc:=fun j hj=>by
    rw[<-Y0,<-h4,I2,D0 hj,Q3]
   obtain⟨s,e0⟩:∃ a,bs[i]? = some a:=⟨_,B0 (by omega)⟩;obtain⟨a1,e1⟩:∃ a,bs[i+1]? = some a:=⟨_,B0 (by omega)⟩;obtain⟨a2,e2⟩:∃ a,bs[i+2]? = some a:=⟨_,B0 (by omega)⟩;obtain⟨a3,l⟩:∃ a,bs[i+3]? = some a:=⟨_,B0 (by omega)⟩;have u:=ID s a1 a2 a3;refine SF (AN3 (o:=o+i) w (by omega) ((hg i (by omega)).trans (by rw[e0];rfl)) ((by rw[show o+i+1=o+(i+1) by omega];exact (hg (i+1) (by omega)).trans (by rw[e1];rfl))) ((by rw[show o+i+2=o+(i+2) by omega];exact (hg (i+2) (by omega)).trans (by rw[e2];rfl))) ((by rw[show o+i+3=o+(i+3) by omega];exact (hg (i+3) (by omega)).trans (by rw[l];rfl))) ?_);simp (disch:=omega) only[go_sem];refine t (bs.length-(i+4)) _ _ _ ⟨i+4,Pz g (Io s a1 a2 a3),rfl,by omega,by omega,rfl,rfl,Ju ah u,w,?_⟩ (by omega);rw[<-he];have hd:bs.drop i=s::a1::a2::a3::bs.drop (i+4):=by
    rw[N3 (by omega),N3 (show i+1<bs.length by omega),N3 (show i+1+1<bs.length by omega),N3 (show i+1+1+1<bs.length by omega)];rw[B0 (by omega)] at e0 e1 e2 l;simp only[M2] at e0 e1 e2 l;rw[e0,e1,show bs[i+1+1]=a2 from e2,show bs[i+1+1+1]=a3 from l]
   rw[hd,ER]
 ·refine AS (fun hr=>?_) (fun hr=>?_)
  ·have ae:bs.length/4*4=i:=by omega
   refine AV w mf rfl fun lb h w=>?_;rcases d with⟨a',c',f,p⟩|⟨b,o,c',all,T,fz,y,f,p,h3,h4,h5⟩
   ·subst p;simp at hr
   ·rw[q] at f;simp only[Value.slice.injEq] at f;obtain⟨rfl,_,rfl⟩:=f;simp (disch:=omega) only[p8,go_sem,ae];subst p;have hz:(⟨List.replicate 4  BE⟩:Array Vz)=bcs [0,0,0,0]:=rfl;rw[hz] at w;have e:(bs.drop i).length=bs.length-i:=by simp
    refine Hc (src:=bs.drop i) w (.inr ⟨b,o+i,c-i,all,T,fz,y,by rw[e],rfl,by rw[e];omega,?_,by rw[e];omega⟩) (by rw[e];simp;omega) (by rw[e];omega) fun h w=>?_
    ·rw[e,<-H5];rw[X8,<-h4,V3]
    ·have aj:(setL [0,0,0,0] 0 (bs.drop i)).length=4:=Ad (by rw[e];simp;omega);obtain⟨s,e0⟩:∃ a,(setL [0,0,0,0] 0 (bs.drop i))[0]? = some a:=⟨_,B0 (by omega)⟩;obtain⟨a1,e1⟩:∃ a,(setL [0,0,0,0] 0 (bs.drop i))[1]? = some a:=⟨_,B0 (by omega)⟩;obtain⟨a2,e2⟩:∃ a,(setL [0,0,0,0] 0 (bs.drop i))[2]? = some a:=⟨_,B0 (by omega)⟩;obtain⟨a3,l⟩:∃ a,(setL [0,0,0,0] 0 (bs.drop i))[3]? = some a:=⟨_,B0 (by omega)⟩;have u:=ID s a1 a2 a3;refine SF (AN3 (all:=(setL [0,0,0,0] 0 (bs.drop i)).map bc) w (by omega) (by rw[Y0,e0];rfl) (by rw[Y0,e1];rfl) (by rw[Y0,e2];rfl) (by rw[Y0,l];rfl) ?_);simp (disch:=omega) only[go_sem];have:=Ya (hh:=g) (by rw[e];omega) (by rw[e];omega) e0 e1 e2 l;rw[<-he,this] at K;exact K _ w.right
  ·have:bs.drop i=[]:=C5 (by omega);rw[this,ER] at he;rw[he];exact K _ w
def ASs {nm bs:Bs}{v:Vz}(w:AN x h)(d:RdX x v bs)(l:bs.length<1000000)(p:nm.length<1000000)(K:∀ h,AN x h->Q (AM (hashX nm bs:Nat)) h):AMj (str nm) v h Q:=by
 unfold AMj AA8 AW;refine DF (fun m f g c=>∃ i,m=nm.length-i/\i<=nm.length/\f=AM ((nm.take i).foldl NO 0:Nat)/\g=AB (i:Nat)/\AN x c) nm.length ⟨0,rfl,Q2 _,rfl,rfl,w⟩ ?_;rintro rec m f g c ⟨i,rfl,hi,rfl,rfl,w⟩ a;have b:=LR (nm.take i) 0 (by omega);unfold YG BL;simp (disch:=omega) only[go_sem];refine AS (fun j=>?_) (fun j=>?_)
 ·obtain⟨u,e⟩:∃ u,nm[i]? = some u:=⟨_,B0 (by omega)⟩;have o:=u.toNat_lt;have q:(nm.take i).foldl NO 0*32%4294967296 ^^^ (nm.take i).foldl NO 0/134217728<4294967296:=H7 (n:=32) (by omega) (by omega);rw[DA e];simp (disch:=omega) only[go_sem,bc];refine a (nm.length-(i+1)) _ _ _ ⟨i+1,rfl,by omega,?_,rfl,w⟩ (by omega);rw[O3,e];simp[M6,NO]
 ·have:i=nm.length:=by omega
  subst this;rw[L1] at *;exact AQK w d l b K
def Gh (s p:Bs):Bool:=decide (p.length<=s.length/\s.take p.length=p)
def ASy {s p:Bs}(c:s.length<9223372036854775808)(K:Q (.bool (Gh s p)) h):AMp (str s) (str p) h Q:=by
 unfold AMp AW;simp (disch:=omega) only[go_sem];refine Ct (fun b=>?_) (fun b=>?_)
 ·have a:p.length<=s.length:=by omega
  simp (disch:=omega) only[go_sem];have:Gh s p=decide (s.take p.length=p):=by unfold Gh;simp[a]
  rw[this] at K;exact K
 ·have:Gh s p=false:=by
   unfold Gh;simp only[decide_eq_false_iff_not];omega
  rw[this] at K;exact K
def ASw {s p:Bs}(a:s.length<9223372036854775808)(K:Q (.bool (Gh s p)) h):AMn (str s) (str p) h Q:=by
 unfold AMn AW;exact AGa (ASy a K)
def PX:List (Nat×Bs):=[(2,[115,121,115,116,101,109,46,112,111,115,105,120,95,97,99,108,95,97,99,99,101,115,115]),(3,[115,121,115,116,101,109,46,112,111,115,105,120,95,97,99,108,95,100,101,102,97,117,108,116]),
 (8,[115,121,115,116,101,109,46,114,105,99,104,97,99,108]),(7,[115,121,115,116,101,109,46]),(1,[117,115,101,114,46]),(4,[116,114,117,115,116,101,100,46]),(6,[115,101,99,117,114,105,116,121,46])]
def mu:List Vz:=PX.flatMap fun p=>[.int .u8 (p.1:Nat),str p.2]
def HU (x:Res):Prop:=∃ c T fz y,x=pts 4 (.cells c T fz)+y/\∀ i,i<14->c[i]? = mu[i]?
def HU.bf (g:HU x):HU (y+x):=by
 obtain⟨c,T,fz,z,rfl,h⟩:=g;exact⟨c,T,fz,y+z,Res.left_comm _ _ _,h⟩
def HU.an (g:HU x):HU (x+y):=by rw[Res.comm];exact g.bf
def compL (nm:Bs):List (Nat×Bs)->Nat×Bs
 | []=>(0,nm)
 | (i,p)::l=>bif Gh nm p then (i,nm.drop p.length) else compL nm l
def mo:Am TP 341=some (.agg ⟨[Ax,str []]⟩):=by kernel_rfl
def AH4:∀ i,i<7->∃ ix p,PX.drop i=(ix,p)::PX.drop (i+1)/\(mu.take (i*2+2)).drop (i*2)=[.int .u8 (ix:Nat),str p]/\p.length<100/\ix<256:=by
 intro i hi;have:i=0\/i=1\/i=2\/i=3\/i=4\/i=5\/i=6:=by omega
 rcases this with rfl|rfl|rfl|rfl|rfl|rfl|rfl<;>exact⟨_,_,rfl,rfl,by decide,by decide⟩
def SY {len sz n:Nat}{cs:Array Vz}{kk:Iq}(b:n<len):Jq true len sz (.agg cs) (.int kk (n:Int)) k=k (.agg (cs.extract (n*sz) (n*sz+sz))):=by
 unfold Jq;refine propext ⟨fun⟨cs',kk',m,v,h1,h2,h3,h4,h5,h6⟩=>?_,fun a=>⟨cs,kk,n,_,rfl,rfl,by omega,by omega,rfl,by simpa using a⟩⟩;cases h1;cases h2;simp only[VB,cond,J5,M2] at h5;rw[h5];exact h6
def BC {b o n:Nat}{c:Array Vz}{T:Tj}{fz:Nat×Nat}(a:h[b]? = some (.cells c T fz))(d:o+n<=c.size):Ae true n (.pointer (some ⟨b,o,none⟩)) h k=k (.agg (c.extract o (o+n))):=by
 unfold Ae Qw;refine propext ⟨fun⟨p,v,h1,h2,h3⟩=>?_,fun e=>⟨_,_,rfl,?_,e⟩⟩
 ·cases h1;simp only[cond,a,Z5,K3,if_false,D0 d,M2] at h2;rw[h2];exact h3
 ·simp only[cond,a,Z5,K3,if_false,D0 d]
theorem ASn {nm:Bs}(g:HU x)(w:AN x h)(hn:nm.length<9223372036854775808)(K:∀ h,AN x h->Q (.tuple #[.int .u8 ((compL nm PX).1:Nat),str (compL nm PX).2]) h):AMc (str nm) h Q:=by
 obtain⟨c,T,fz,y,hx,s⟩:=g;have u:h[4]? = some (.cells c T fz):=by
  have:=w;rw[hx] at this;exact this.left.one
 have ae:14<=c.size:=by
  rcases P5 c.size 14 with d|o
  ·have j:=s c.size d;rw[Array.getElem?_eq_none (I0 _)] at j;have l:mu.length=14:=rfl;have:=List.getElem?_eq_none_iff.1 j.symm;omega
  ·exact o
 have n:c.extract 0 (0+14)=⟨mu⟩:=by
  apply N6;intro i;rw[Array.getElem?_extract];have l:mu.length=14:=rfl;by_cases hi:i<14
  ·rw[D0 (by omega),U1,s i hi];simp
  ·rw[F0 (by omega)];simp[D3 (show mu.length<=i by omega)]
 unfold AMc AW;rw[BC u (by omega),n];unfold AA4;refine Bj (fun m t q=>∃ i,m=7-i/\i<=7/\t=AB (i:Nat)/\AN x q/\compL nm PX=compL nm (PX.drop i)) 7 ⟨0,rfl,by omega,rfl,w,rfl⟩ ?_;rintro rec m t q ⟨i,rfl,hi,rfl,w,b⟩ f;unfold YD BL;simp (disch:=omega) only[go_sem];refine AS (fun d=>?_) (fun d=>?_)
 ·obtain⟨ix,p,j,l,h3,h4⟩:=AH4 i (by omega);rw[SY (by omega)];have a:(⟨mu⟩:Array Vz).extract (i*2) (i*2+2)=⟨[.int .u8 (ix:Nat),str p]⟩:=by
   apply P4;rw[Array.toList_extract,I3,<-V3,l]
  rw[a];refine AV w mo rfl fun pb h w=>?_;refine AD w ⟨[.int .u8 (ix:Nat),str p]⟩ rfl rfl (by simp) rfl fun h w=>?_;simp (disch:=omega) only[go_sem,AC w];refine AGY (ASw hn ?_);rw[j,compL] at b;cases e:Gh nm p with
  | true=>
   rw[e] at b;have v:p.length<=nm.length:=by
    unfold Gh at e;simp only[W4] at e;exact e.1
   simp (disch:=omega) only[go_sem,AC w];rw[b] at K;exact K _ w.right
  | false=>
   rw[e] at b;simp (disch:=omega) only[go_sem];exact f (7-(i+1)) _ _ ⟨i+1,rfl,by omega,rfl,w.right,b⟩ (by omega)
 ·have:i=7:=by omega
  subst this;have:PX.drop 7=[]:=rfl;rw[this,compL] at b;rw[b] at K;exact K _ w
def ASO {b:Nat}{a c:Vz}{m m':Vz}(w:AN (pts b (.cells ⟨[a,c,m,m']⟩ 284 (0,0))+x) h)(K:∀ h,AN (pts b (.cells ⟨[a,c,AB (96:Nat),AB (4060:Nat)]⟩ 284 (0,0))+x) h->Q (.tuple #[]) h):ALz (Pt b) h Q:=by
 unfold ALz AW;simp (disch:=omega) only[go_sem];refine AD w ⟨[a,c,AB (96:Nat),m']⟩ rfl rfl (by simp) rfl fun h w=>?_;exact AD w ⟨[a,c,AB (96:Nat),AB (4060:Nat)]⟩ rfl rfl (by simp) rfl fun h w=>K h w
def Pk (set:Bool)(sec ns:Nat):Nat:=if set then if sec>15032385535 then 15032385535 else sec ||| (ns*17179869184%18446744073709551616) else 0
def AHP {set:Bool}{sec ns:Int}(w:AN x h)(c:set=true->0<=sec/\sec<9223372036854775808/\0<=ns/\ns<1000000000)(K:∀ h,AN x h->Q (AH (Pk set sec.toNat ns.toNat:Nat)) h):AFx (.agg ⟨[.bool set,AB sec,AB ns]⟩) h Q:=by
 cases set with
 | false=>
  unfold AFx AW;refine BG w fun b h w=>?_;simp only[go_sem,AC w,T5];exact K _ w.right
 | true=>
  obtain⟨k1,d,k2,e⟩:=c rfl;obtain⟨sec,rfl⟩:=Int.eq_ofNat_of_zero_le k1;obtain⟨ns,rfl⟩:=Int.eq_ofNat_of_zero_le k2;rw[J5,J5] at K;unfold AFx AW;refine BG w fun b h w=>?_;simp (disch:=omega) only[go_sem,AC w];simp only[P3,go_sem];refine AS (fun a=>by omega) (fun _=>?_);refine AS (fun a=>?_) (fun a=>?_)
  ·have:Pk true sec ns=15032385535:=by unfold Pk;rw[D0 rfl,D0 (by omega)]
   rw[this] at K;exact K _ w.right
  ·have:Pk true sec ns=sec ||| (ns*17179869184%18446744073709551616):=by unfold Pk;rw[D0 rfl,F0 (by omega)]
   rw[this] at K;exact K _ w.right
end Go.Proofs.YtollddkkdgoonaaGreatDoor
