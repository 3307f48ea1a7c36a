/- A part of a proof over images that are written and read. No condition; a step. -/
import Derived.Test.YtollddkkdgoonaaGreatDoorM3
import Derived.Laws.Strings
import Derived.Shelf.Small.Strs
import Derived.Shelf.Strings.Search1
import Derived.Test.YtollddkkdgoonaaGreatDoorProg
namespace Go.Proofs.YtollddkkdgoonaaGreatDoor
open Go
set_option linter.unusedVariables false
set_option linter.unusedSimpArgs false
set_option maxRecDepth 100000
section
variable {h:H} {k:Value→Prop} {kt Q:Kt} {x y r:Res}
@[go_sem] theorem wu8 {m:Nat}(hm:m<256):IntKind.u8.wrap (m:Int)=m:=AAD (by omega) (by omega)
@[go_sem] theorem AFr {m:Nat}(hm:m<65536):IntKind.u16.wrap (m:Int)=m:=YI (by omega) (by omega)
@[go_sem] theorem JR {m:Nat}(hm:m<4294967296):IntKind.u32.wrap (m:Int)=m:=Vz (by omega) (by omega)
@[go_sem] theorem CU {m:Nat}(hm:m<18446744073709551616):IntKind.u64.wrap (m:Int)=m:=VP (by omega) (by omega)
@[go_sem] theorem Ci {m:Nat}(hm:m<9223372036854775808):IntKind.i64.wrap (m:Int)=m:=Ge (by omega) (by omega)
@[go_sem] theorem AI5 {kk:IntKind}{a b:Nat}:AD .add (.int kk (a:Int)) (.int kk (b:Int)) k=k (.int kk (kk.wrap ((a+b:Nat):Int))):=by rw[A0];rfl
@[go_sem] theorem BN {kk:IntKind}{a n:Nat}:AD .add (.int kk (a:Int)) (.int kk (no_index (OfNat.ofNat n:Int))) k=k (.int kk (kk.wrap ((a+n:Nat):Int))):=by rw[A0];rfl
@[go_sem] theorem Vy {kk:IntKind}{a b:Nat}(hb:b≤a):AD .sub (.int kk (a:Int)) (.int kk (b:Int)) k=k (.int kk (kk.wrap ((a-b:Nat):Int))):=by rw[Bv,Int.ofNat_sub hb]
@[go_sem] theorem Ra {kk:IntKind}{a n:Nat}(hb:(OfNat.ofNat n:Int)≤(a:Int)):AD .sub (.int kk (a:Int)) (.int kk (no_index (OfNat.ofNat n:Int))) k=k (.int kk (kk.wrap ((a-n:Nat):Int))):=by
 have hb':n≤a:=Int.ofNat_le.1 hb
 rw[Bv,Int.ofNat_sub hb'];rfl
@[go_sem] theorem Qc {kk:IntKind}{a b:Nat}:AD .mul (.int kk (a:Int)) (.int kk (b:Int)) k=k (.int kk (kk.wrap ((a*b:Nat):Int))):=by rw[Bc];rfl
@[go_sem] theorem XV {kk:IntKind}{a n:Nat}:AD .mul (.int kk (a:Int)) (.int kk (no_index (OfNat.ofNat n:Int))) k=k (.int kk (kk.wrap ((a*n:Nat):Int))):=by rw[Bc];rfl
@[go_sem] theorem QI {kk:IntKind}{a b:Nat}(hb:0<b):AD .quo (.int kk (a:Int)) (.int kk (b:Int)) k=k (.int kk (kk.wrap ((a/b:Nat):Int))):=by
 rw[M5 (by omega),←Int.ofNat_tdiv]
@[go_sem] theorem Rb {kk:IntKind}{a n:Nat}(hb:(0:Int)<OfNat.ofNat n):AD .quo (.int kk (a:Int)) (.int kk (no_index (OfNat.ofNat n:Int))) k=k (.int kk (kk.wrap ((a/n:Nat):Int))):=QI (B29.1 hb)
@[go_sem] theorem ADi {kk:IntKind}{a b:Nat}(hb:0<b):AD .rem (.int kk (a:Int)) (.int kk (b:Int)) k=k (.int kk ((a%b:Nat):Int)):=by
 rw[AKO (by omega),Int.ofNat_tmod]
@[go_sem] theorem LI {kk:IntKind}{a n:Nat}(hb:(0:Int)<OfNat.ofNat n):AD .rem (.int kk (a:Int)) (.int kk (no_index (OfNat.ofNat n:Int))) k=k (.int kk ((a%n:Nat):Int)):=ADi (B29.1 hb)
def RdX (x:Res)(v:Value)(bs:Bs):Prop:=
 (∃ a c,v=.slice a 0 c∧bs=[])∨∃ b o c all T fz y,v=.slice (some ⟨b,o,none⟩) bs.length c∧x=pts b (.cells ⟨all⟩ T fz)+y∧o+bs.length≤all.length∧(all.drop o).take bs.length=bs.map bc∧bs.length≤c
theorem RdX.rd {v:Value}{bs:Bs}(d:RdX x v bs)(w:AN x h):Rd h v bs:=by
 rcases d with d|⟨b,o,c,all,T,fz,y,h1,h2,h3,h4,_⟩
 ·exact .inl d
 ·subst h2;exact .inr ⟨b,o,c,all,T,fz,h1,w.left.one,h3,h4⟩
theorem RdX.addL {v:Value}{bs:Bs}(d:RdX x v bs):RdX (x+y) v bs:=by
 rcases d with d|⟨b,o,c,all,T,fz,z,h1,h2,h3,h4⟩
 ·exact .inl d
 ·exact .inr ⟨b,o,c,all,T,fz,z+y,h1,by rw[h2,Res.assoc],h3,h4⟩
theorem RdX.addR {v:Value}{bs:Bs}(d:RdX x v bs):RdX (y+x) v bs:=by rw[Res.comm];exact d.addL
theorem BufV.rdX {v:Value}{bs:Bs}(b:BufV v bs r):RdX r v bs:=by
 cases b with
 | nil=>exact .inl ⟨none,0,rfl,rfl⟩
 | own hn=>
  rename_i b n all
  exact .inr ⟨b,0,all.length,all.map bc,5,(0,0),0,by simp[A30 hn],(Res.add_zero _).symm,by simp;omega,by simp,by simp;omega⟩
theorem RdX.ofBuf {b n:Nat}{l:Bs}{T:TypeId}{fz:Nat×Nat}(hl:l.length=n):RdX (pts b (.cells (bcs l) T fz)+y) (.slice (some ⟨b,0,none⟩) n n) l:=
 .inr ⟨b,0,n,l.map bc,T,fz,y,by rw[hl],rfl,by simp,by rw[A68,A43 (by simp)],by omega⟩
theorem RdX.len {v:Value}{bs:Bs}(d:RdX x v bs):∃ a c,v=.slice a bs.length c:=by
 rcases d with⟨a,c,h1,h2⟩|⟨b,o,c,all,T,fz,y,h1,_⟩
 ·subst h2;exact⟨_,c,h1⟩
 ·exact⟨_,c,h1⟩
theorem BufV.len {v:Value}{bs:Bs}(b:BufV v bs r):∃ a c,v=.slice a bs.length c:=b.rdX.len
@[go_sem] theorem Gc {kk:IntKind}{b o n c l:Nat}(h1:l≤n)(h2:n≤c)(h3:l≠c):AZ (.slice 1) (.slice (some ⟨b,o,none⟩) n c) (some (.int kk (l:Int))) none k=k (.slice (some ⟨b,o+l,none⟩) (n-l) (c-l)):=by
 have hv:A6 (.slice 1) (.slice (some ⟨b,o,none⟩) n c) (some (.int kk (l:Int))) none=some (.slice (some ⟨b,o+l,none⟩) (n-l) (c-l)):=by
  have hb:Ay 0 (some (.int kk (l:Int)))=some l:=by simp[Ay]
  unfold A6
  rw[hb]
  simp only[Ay]
  rw[A03 ⟨h1,h2⟩,A05 (fun h=>h3 h.symm),A67,A80,Bm]
 exact propext ⟨fun⟨v,a,b⟩=>by rw[hv] at a;cases a;exact b,fun a=>⟨_,hv,a⟩⟩
theorem DN {l m:Bs}{o i:Nat}(h:o+m.length≤l.length):(setL l o m)[i]? = if i<o then l[i]? else if i<o+m.length then m[i-o]? else l[i]?:=by
 unfold setL
 grind
theorem Iu {all news:Bs}{pos n:Nat}(h:pos+news.length≤n)(hn:n≤all.length):(setL all pos news).take n=setL (all.take n) pos news:=by
 apply A60
 intro i
 rw[A41,DN (by omega),DN (by simp;omega)]
 grind
theorem FN {b off n c:Nat}{all src:Bs}{s:Value}{T:TypeId}{kt:Kt}(w:AN (pts b (.cells (bcs all) T (0,0))+x) h)(d:RdX x s src)(hle:off+src.length≤all.length)(hn:src.length≤n)
  (K:∀ h,AN (pts b (.cells (bcs (setL all off src)) T (0,0))+x) h→kt (.int .i64 (src.length:Nat)) h):DI 1 (.slice (some ⟨b,off,none⟩) n c) s h kt:=by
 have rd:=d.rd w.right
 refine⟨_,n,c,src.length,bcs src,rfl,rd.srcLen,?_,.inr ⟨_,bcs all,T,rfl,rfl,w.left.one,by rw[CH,CH];exact hle,H6 _,?_⟩⟩
 ·rw[A30 hn]
  have:=rd.src src.length (A07 _)
  rwa [A38] at this
 ·rw[A30 hn]
  simp only
  rw[Cc hle]
  exact K _ w.set
def BG (B:Bs)(pos:Nat)(news:Bs):Bs:=setL (B++List.replicate (pos+news.length-B.length) 0) pos news
theorem Ei {B news:Bs}{pos:Nat}:(BG B pos news).length=max B.length (pos+news.length):=by
 unfold BG
 rw[AS (by simp;omega)]
 simp;omega
theorem ER {kl kc:IntKind}{n:Nat}(w:AN x h)(hn:n≤140737488355328)(K:∀ b h,AN (buf b (List.replicate n 0)+x) h→kt (.slice (some ⟨b,0,none⟩) n n) h) :
  AY (AG TP 5) 1 1 5 (.int kl (n:Int)) (.int kc (n:Int)) h kt:=
 ⟨kl,kc,n,n,.int .u8 0,rfl,rfl,O7,by omega,by omega,by omega,by omega,fun b h' e hb ho=>by
  rw[A67,CY rfl] at ho
  have:(⟨List.replicate (n:Int).toNat (.int .u8 0)⟩:Array Value)=bcs (List.replicate n 0):=by rw[Dn];simp
  rw[this] at ho
  simpa using K b h' (w.new e hb ho)⟩
theorem Ad {b o:Nat}{c:Array Value}{T:TypeId}{fz:Nat×Nat}{v:Value}(w:AN x h)[CO b x (.cells c T fz)](hv:c[o]? = some v):AB false 1 (.pointer (some ⟨b,o,none⟩)) h fun u=>u=v:=by
 rw[AF w,hv];rfl
end
section
variable {h:H} {k:Value→Prop} {kt Q:Kt} {x y r:Res}
inductive Vec (T:TypeId) (sz:Nat):Value→Nat→List Value→Res→Prop
 | nil:Vec T sz (.slice none 0 0) 0 [] 0
 | own {b n c:Nat} {all:List Value}:n≤c→all.length=c*sz→Vec T sz (.slice (some ⟨b,0,none⟩) n c) n (all.take (n*sz)) (pts b (.cells ⟨all⟩ T (0,0)))
theorem Vec.own' {T:TypeId}{sz b n c:Nat}{all vs:List Value}(hn:n≤c)(hc:all.length=c*sz)(ht:all.take (n*sz)=vs):Vec T sz (.slice (some ⟨b,0,none⟩) n c) n vs (pts b (.cells ⟨all⟩ T (0,0))):=by
 subst ht;exact .own hn hc
theorem Vec.len {T:TypeId}{sz n:Nat}{v:Value}{vs:List Value}(d:Vec T sz v n vs r):(∃ a c,v=.slice a n c)∧vs.length=n*sz:=by
 cases d with
 | nil=>exact⟨⟨_,_,rfl⟩,by simp⟩
 | own hn hc=>
  refine⟨⟨_,_,rfl⟩,?_⟩
  rw[A20,hc,A30 (A48 sz hn)]
theorem Vec.src {T:TypeId}{sz n:Nat}{v:Value}{vs:List Value}(d:Vec T sz v n vs r)(w:AN (r+x) h):BF sz n h v=some ⟨vs⟩:=by
 cases d with
 | nil=>rfl
 | own hn hc=>
  unfold BF
  simp only[w.left.one,A86,A45,if_false]
  have:=A48 sz hn
  rw[A03 (by simp;omega)]
  congr 1
  apply A56
  simp[A44]
theorem Io {z:Array Value}{n:Nat}:(Builtin.zeroCells z n).size=n*z.size:=by simp[Builtin.zeroCells]
theorem Fz {all news:List Value}{o:Nat}(hl:o+news.length≤all.length):(Ai ⟨all⟩ o news).toList.take (o+news.length)=all.take o++news:=by
 apply A60
 intro i
 have:=DZ news ⟨all⟩ o i (by simpa using hl)
 rw[A41]
 rw[←B41] at this
 rw[this]
 grind
theorem IP {T:TypeId}{sz by_ n m:Nat}{z:Option Value}{zv v:Value}{vs news:List Value}(d:Vec T sz v n vs r)(w:AN (r+x) h)(hz:z=some zv)(hzs:zv.cells.size=sz)
  (hb:(n+m)*by_≤140737488355328) (hb2:n+m≤140737488355328) (hone:news.all Value.oneCell'=true) (hm:news.length=m*sz)
  (K:∀ v r h,Vec T sz v (n+m) (vs++news) r→AN (r+x) h→kt v h):JI T z sz by_ v m ⟨news⟩ h kt:=by
 have hsrc:=d.src w
 cases d with
 | nil=>
  refine⟨none,0,0,zv,#[],rfl,hz,hzs,hb,hb2,rfl,fun h0=>?_,fun _ b c' h' hc hc2 e hb ho=>?_⟩
  ·have hm0:m=0:=by omega
   subst hm0
   have:news=[]:=A69.1 (by simpa using hm)
   subst this
   exact .inl ⟨rfl,rfl,K _ _ h .nil w⟩
  ·refine K _ _ h' (.own' (all:=news++(Builtin.zeroCells zv.cells (c'-(0+m))).toList) hc ?_ ?_) ((w.right.new e hb ho).cast ?_)
   ·simp only[A01,B21,Io,hzs,hm]
    rw[←A93];congr 1;omega
   ·rw[A24 (by rw[hm];simp),A43 (by rw[hm];simp)];rfl
   ·congr 2
    simp only[Obj.cells.injEq,and_true]
    apply A56;simp
 | own hn hc=>
  rename_i b c all
  have hle:=A48 sz hn
  refine⟨_,n,c,zv,_,rfl,hz,hzs,hb,hb2,hsrc,fun h0=>?_,fun _ b' c' h' hc' hc2 e hb ho=>?_⟩
  ·have hle2:n*sz+news.length≤all.length:=by
    rw[hm,hc,←A93];exact A48 sz h0
   refine .inr ⟨_,_,T,rfl,rfl,w.left.one,?_,hone,?_⟩
   ·simp only[A29,A31,hc];exact A48 sz h0
   ·simp only[A29]
    have hsz:(Ai ⟨all⟩ (n*sz) news).toList.length=c*sz:=by rw[B21,FA];simpa using hc
    have:=K _ _ _ (.own' (b:=b) (T:=T) (sz:=sz) (n:=n+m) (c:=c) (all:=(Ai ⟨all⟩ (n*sz) news).toList) h0 hsz (by
     rw[A93,←hm];exact Fz hle2)) w.set
    exact this
  ·refine K _ _ h' (.own' (all:=all.take (n*sz)++news++(Builtin.zeroCells zv.cells (c'-(n+m))).toList) hc' ?_ ?_) ((w.right.new e hb ho).cast ?_)
   ·simp only[A01,A20,B21,Io,hzs,hm,hc,A30 hle]
    rw[←A93,←A93];congr 1;omega
   ·have:(all.take (n*sz)++news).length=(n+m)*sz:=by
     simp only[A01,A20,hc,A30 hle,hm,←A93]
    rw[A24 (by omega),A43 (by omega)]
   ·congr 2
    simp only[Obj.cells.injEq,and_true]
    apply A56;simp
theorem EY {T:TypeId}{by_ n:Nat}{z:Option Value}{zv v e:Value}{vs:List Value}(d:Vec T 1 v n vs r)(w:AN (r+x) h)(hz:z=some zv)(hzs:zv.cells=#[zv])(he:e.cells=#[e])(ho:Value.oneCell' e=true)
  (hb:(n+1)*by_≤140737488355328) (hb2:n+1≤140737488355328) (K:∀ v r h,Vec T 1 v (n+1) (vs++[e]) r→AN (r+x) h→kt v h) :
  AH (.arr 1) T z 1 1 [(0,e)] h fun s h=>AM T z 1 by_ v s h kt:=by
 refine⟨zv,⟨[e]⟩,hz,by omega,?_,fun b h' ex hb' ho'=>?_⟩
 ·rw[A05 (by omega),CY hzs]
  refine Es _ _ _ ?_
  unfold DC
  simp[Br,he,DC,GE]
 ·have w':=w.new ex hb' ho'
  refine⟨1,⟨[e]⟩,rfl,?_,IP d (w'.cast (Res.left_comm _ _ _)) hz (by rw[hzs];rfl) hb hb2 (by simp[ho]) rfl fun v r h d w=>K v r h d ?_⟩
  ·unfold BF
   simp only[w'.left.one]
   simp
  ·exact AN.left (y:=pts b (.cells ⟨[e]⟩ T (0,0))) (w.cast (by ac_rfl))
end
section
variable {h:H} {k:Value→Prop} {kt Q:Kt} {x y r:Res}
abbrev str (l:Bs):Value:=.string ⟨l.toArray⟩
theorem Cp (l:Bs):(⟨l.toArray⟩:ByteArray).size=l.length:=by simp[ByteArray.size]
@[go_sem high] theorem AGz {l:Bs}:CL (str l) k=k (.int .i64 (l.length:Nat)):=by rw[AE2,Cp]
theorem Et (l:Bs)(i j:Nat):(⟨l.toArray⟩:ByteArray).extract i j=⟨((l.take j).drop i).toArray⟩:=by
 apply ByteArray.ext
 rw[ByteArray.data_extract]
 apply A56
 simp[A44,A49]
theorem Dp {kk:IntKind}{n d:Nat}:Ay d (some (.int kk (n:Int)))=some n:=by simp[Ay]
@[go_sem] theorem Z9 {kk kk':IntKind}{l:Bs}{i j:Nat}(h1:i≤j)(h2:j≤l.length):AZ .str (str l) (some (.int kk (i:Int))) (some (.int kk' (j:Int))) k=k (str ((l.take j).drop i)):=by
 have hv:A6 .str (str l) (some (.int kk (i:Int))) (some (.int kk' (j:Int)))=some (str ((l.take j).drop i)):=by
  unfold A6
  simp only[Dp]
  rw[Cp,A03 ⟨h1,h2⟩,Et]
 exact propext ⟨fun⟨v,a,b⟩=>by rw[hv] at a;cases a;exact b,fun a=>⟨_,hv,a⟩⟩
@[go_sem] theorem Pl {kk':IntKind}{l:Bs}{j:Nat}(h2:j≤l.length):AZ .str (str l) none (some (.int kk' (j:Int))) k=k (str (l.take j)):=by
 have hv:A6 .str (str l) none (some (.int kk' (j:Int)))=some (str (l.take j)):=by
  unfold A6
  simp only[Dp]
  simp only[Ay]
  rw[Cp,A03 ⟨A39 _,h2⟩,Et];rfl
 exact propext ⟨fun⟨v,a,b⟩=>by rw[hv] at a;cases a;exact b,fun a=>⟨_,hv,a⟩⟩
@[go_sem] theorem JE {kk:IntKind}{l:Bs}{i:Nat}(h1:i≤l.length):AZ .str (str l) (some (.int kk (i:Int))) none k=k (str (l.drop i)):=by
 have hv:A6 .str (str l) (some (.int kk (i:Int))) none=some (str (l.drop i)):=by
  unfold A6
  simp only[Dp]
  simp only[Ay]
  rw[Cp,A03 ⟨h1,A07 _⟩,Et,A38]
 exact propext ⟨fun⟨v,a,b⟩=>by rw[hv] at a;cases a;exact b,fun a=>⟨_,hv,a⟩⟩
@[go_sem] theorem Ou {kk:IntKind}{l:Bs}(h1:1≤l.length):AZ .str (str l) (some (.int kk 1)) none k=k (str (l.drop 1)):=JE (i:=1) h1
@[go_sem] theorem H9 {a b:Bs}(hl:a.length+b.length<9223372036854775808):AD .add (str a) (str b) k=k (str (a++b)):=by
 have hv:CT .add (str a) (str b)=some (str (a++b)):=by
  simp only[CT]
  have hm:IntKind.max .i64=9223372036854775807:=rfl
  rw[A05 (by rw[Cp,Cp,hm];omega)]
  congr 2
 exact propext ⟨fun⟨v,a,b⟩=>by rw[hv] at a;cases a;exact b,fun a=>⟨_,hv,a⟩⟩
theorem OD (a b:Bs):(a == b)=decide (a=b):=by
 by_cases h:a=b
 ·subst h;simp
 ·simp[h]
@[go_sem] theorem NZ {a b:Bs}:AD .eql (str a) (str b) k=k (.bool (decide (a=b))):=by
 have hv:CT .eql (str a) (str b)=some (.bool (decide (a=b))):=by simp only[CT,ByteArray.toList_eq,OD]
 exact propext ⟨fun⟨v,a,b⟩=>by rw[hv] at a;cases a;exact b,fun a=>⟨_,hv,a⟩⟩
@[go_sem] theorem Fq {a b:Bs}:AD .neq (str a) (str b) k=k (.bool (decide (a≠b))):=by
 have hv:CT .neq (str a) (str b)=some (.bool (decide (a≠b))):=by simp only[CT,ByteArray.toList_eq,OD,AAd]
 exact propext ⟨fun⟨v,a,b⟩=>by rw[hv] at a;cases a;exact b,fun a=>⟨_,hv,a⟩⟩
theorem CD {kk:IntKind}{l:Bs}{n:Nat}{b:UInt8}(hb:l[n]? = some b):BQ (str l) (.int kk (n:Int)) k=k (bc b):=by
 have hg:(⟨l.toArray⟩:ByteArray)[n]? = some b:=by
  have hlt:n<l.length:=(A02.1 hb).1
  have:n<(⟨l.toArray⟩:ByteArray).size:=by rw[Cp];exact hlt
  have hx:=(A02.1 hb).2
  rw[getElem?_pos (⟨l.toArray⟩:ByteArray) n this]
  exact A76 some hx
 unfold BQ
 refine propext ⟨fun⟨s,kk',m,c,h1,h2,h3,h4,h5⟩=>?_,fun hk=>⟨_,kk,n,b,rfl,rfl,by omega,by simpa using hg,hk⟩⟩
 cases h1;cases h2
 rw[A77,hg] at h4
 cases h4
 exact h5
def DP (f:Nat→Value)(l:List (Bs×Nat)):Array MapEntry:=⟨l.zipIdx.map fun p=>⟨str p.1.1,f p.1.2,p.2⟩⟩
def lookE (l:List (Bs×Nat))(nm:Bs):Option Nat:=(l.find? fun p=>p.1 == nm).map (·.2)
theorem UR (a b:Bs):HO (str a) (str b)=some (decide (a=b)):=by
 show some ((⟨a.toArray⟩:ByteArray) == ⟨b.toArray⟩)=_
 congr 1
 by_cases h:a=b
 ·subst h;simp[MQ]
 ·have:((⟨a.toArray⟩:ByteArray) == ⟨b.toArray⟩)=false:=by
   cases hb:((⟨a.toArray⟩:ByteArray) == ⟨b.toArray⟩) with
   | false=>rfl
   | true=>
    have:=N2 hb
    simp at this
    exact absurd this h
  rw[this];simp[h]
theorem Fm (f:Nat→Value)(nm:Bs):∀ (l:List (Bs×Nat)) (i j:Nat),∃ q,Cd (str nm) (l.zipIdx.map fun p=>(⟨str p.1.1,f p.1.2,p.2+j⟩:MapEntry)) i=some q∧q.map (·.2)=(lookE l nm).map f ∧
  (∀ a b,q=some (a,b)→∃ c,l[a-i]? = some (nm,c)∧i≤a)
 | [],i,j=>⟨none,rfl,rfl,fun _ _ h=>by cases h⟩
 | (a,c)::l,i,j=>by
  simp only[List.zipIdx_cons,A33,Cd]
  have hk:HO (str nm) (str a)=some (decide (nm=a)):=UR nm a
  rw[hk]
  by_cases h:nm=a
  ·subst h
   refine⟨some (i,f c),by simp,by simp[lookE],fun a' b' h'=>?_⟩
   cases h'
   exact⟨c,by simp,A07 _⟩
  ·obtain⟨q,h1,h2,h3⟩:=Fm f nm l (i+1) (j+1)
   refine⟨q,?_,?_,fun a' b' h'=>?_⟩
   ·simp only[h,decide_false]
    rw[←h1]
    congr 1
    rw[List.zipIdx_succ,B05]
    apply A72
    intro p _
    simp;omega
   ·rw[h2];simp[lookE,List.find?_cons,beq_eq_false_iff_ne.2 (Ne.symm h)]
   ·obtain⟨c',h4,h5⟩:=h3 a' b' h'
    refine⟨c',?_,by omega⟩
    rw[show a'-i=(a'-(i+1))+1 by omega]
    simpa using h4
end
section
variable {h:H} {k:Value→Prop} {kt Q:Kt} {x y r:Res}
theorem Fo {op:BinOp}{a b v:Value}(hv:CT op a b=some v):AD op a b k=k v:=propext ⟨fun⟨u,h1,h2⟩=>by rw[hv] at h1;cases h1;exact h2,fun h2=>⟨_,hv,h2⟩⟩
theorem T7 {kk:IntKind}{a b:Nat}(hk:kk.signed=false)(ha:a<2^kk.bits)(hb:b<2^kk.bits):AD .or (.int kk (a:Int)) (.int kk (b:Int)) k=k (.int kk ((a ||| b:Nat):Int)):=by
 refine Fo ?_
 have h1:(BitVec.ofInt kk.bits (a:Int) ||| BitVec.ofInt kk.bits (b:Int)).toNat=a ||| b:=by
  simp only[BitVec.toNat_or,BitVec.ofInt_natCast,BitVec.toNat_ofNat,A23 ha,A23 hb]
 have h2:a ||| b<2^kk.bits:=B01 ha hb
 simp only[CT,if_true,h1]
 rw[QN hk (by omega) (by exact_mod_cast h2)]
theorem ADv {kk:IntKind}{a b:Nat}(hk:kk.signed=false)(ha:a<2^kk.bits)(hb:b<2^kk.bits):AD .xor (.int kk (a:Int)) (.int kk (b:Int)) k=k (.int kk ((a ^^^ b:Nat):Int)):=by
 refine Fo ?_
 have h1:(BitVec.ofInt kk.bits (a:Int) ^^^ BitVec.ofInt kk.bits (b:Int)).toNat=a ^^^ b:=by
  simp only[BitVec.toNat_xor,BitVec.ofInt_natCast,BitVec.toNat_ofNat,A23 ha,A23 hb]
 have h2:a ^^^ b<2^kk.bits:=B07 ha hb
 simp only[CT,if_true,h1]
 rw[QN hk (by omega) (by exact_mod_cast h2)]
@[go_sem] theorem AIS {a b:Nat}(ha:a<65536)(hb:b<65536):AD .or (.int .u16 (a:Int)) (.int .u16 (b:Int)) k=k (.int .u16 ((a ||| b:Nat):Int)):=T7 rfl ha hb
@[go_sem] theorem AF5 {a b:Nat}(ha:a<4294967296)(hb:b<4294967296):AD .or (.int .u32 (a:Int)) (.int .u32 (b:Int)) k=k (.int .u32 ((a ||| b:Nat):Int)):=T7 rfl ha hb
@[go_sem] theorem V2 {a b:Nat}(ha:a<18446744073709551616)(hb:b<18446744073709551616):AD .or (.int .u64 (a:Int)) (.int .u64 (b:Int)) k=k (.int .u64 ((a ||| b:Nat):Int)):=T7 rfl ha hb
@[go_sem] theorem AIc {a b:Nat}(ha:a<65536)(hb:(OfNat.ofNat b:Int)<65536):AD .or (.int .u16 (a:Int)) (.int .u16 (no_index (OfNat.ofNat b:Int))) k=k (.int .u16 ((a ||| b:Nat):Int)):=AIS ha (B29.1 hb)
@[go_sem] theorem AIk {a b:Nat}(ha:a<4294967296)(hb:(OfNat.ofNat b:Int)<4294967296):AD .or (.int .u32 (a:Int)) (.int .u32 (no_index (OfNat.ofNat b:Int))) k=k (.int .u32 ((a ||| b:Nat):Int)):=AF5 ha (B29.1 hb)
@[go_sem] theorem AIb {a b:Nat}(ha:a<4294967296)(hb:b<4294967296):AD .xor (.int .u32 (a:Int)) (.int .u32 (b:Int)) k=k (.int .u32 ((a ^^^ b:Nat):Int)):=ADv rfl ha hb
theorem Ez {kk k':IntKind}{a s:Nat}(hs:s≤kk.bits):AD .shl (.int kk (a:Int)) (.int k' (s:Int)) k=k (.int kk (kk.wrap ((a*2^s:Nat):Int))):=by
 refine Fo ?_
 simp only[CT]
 rw[A05 (by omega),A77,A30 hs]
 have:(a:Int)*2^s=((a*2^s:Nat):Int):=by simp[Int.natCast_pow]
 rw[this]
theorem w32 {m:Nat}:IntKind.u32.wrap (m:Int)=((m%4294967296:Nat):Int):=Uj
theorem w64 {m:Nat}:IntKind.u64.wrap (m:Int)=((m%18446744073709551616:Nat):Int):=UB
@[go_sem] theorem AG3 {k':IntKind}{a:Nat}:AD .shl (.int .u32 (a:Int)) (.int k' 5) k=k (.int .u32 ((a*32%4294967296:Nat):Int)):=(Ez (s:=5) (by decide)).trans (by rw[w32])
@[go_sem] theorem AG2 {k':IntKind}{a:Nat}:AD .shl (.int .u32 (a:Int)) (.int k' 8) k=k (.int .u32 ((a*256%4294967296:Nat):Int)):=(Ez (s:=8) (by decide)).trans (by rw[w32])
@[go_sem] theorem AFq {k':IntKind}{a:Nat}:AD .shl (.int .u32 (a:Int)) (.int k' 16) k=k (.int .u32 ((a*65536%4294967296:Nat):Int)):=(Ez (s:=16) (by decide)).trans (by rw[w32])
@[go_sem] theorem AFG {k':IntKind}{a:Nat}:AD .shl (.int .u32 (a:Int)) (.int k' 24) k=k (.int .u32 ((a*16777216%4294967296:Nat):Int)):=(Ez (s:=24) (by decide)).trans (by rw[w32])
@[go_sem] theorem AG0 {k':IntKind}{a:Nat}:AD .shl (.int .u64 (a:Int)) (.int k' 8) k=k (.int .u64 ((a*256%18446744073709551616:Nat):Int)):=(Ez (s:=8) (by decide)).trans (by rw[w64])
@[go_sem] theorem XM {k':IntKind}{a:Nat}:AD .shl (.int .u64 (a:Int)) (.int k' 16) k=k (.int .u64 ((a*65536%18446744073709551616:Nat):Int)):=(Ez (s:=16) (by decide)).trans (by rw[w64])
@[go_sem] theorem Hm {k':IntKind}{a:Nat}:AD .shl (.int .u64 (a:Int)) (.int k' 32) k=k (.int .u64 ((a*4294967296%18446744073709551616:Nat):Int)):=(Ez (s:=32) (by decide)).trans (by rw[w64])
@[go_sem] theorem AGY {k':IntKind}{a:Nat}:AD .shl (.int .u64 (a:Int)) (.int k' 34) k=k (.int .u64 ((a*17179869184%18446744073709551616:Nat):Int)):=(Ez (s:=34) (by decide)).trans (by rw[w64])
@[go_sem] theorem AEx {k':IntKind}{a:Nat}:AD .shr (.int .u32 (a:Int)) (.int k' 27) k=k (.int .u32 ((a/134217728:Nat):Int)):=EC (s:=27)
@[go_sem] theorem XR {a:Nat}(ha:a<9223372036854775808):AD .andNot (.int .i64 (a:Int)) (.int .i64 3) k=k (.int .i64 ((a/4*4:Nat):Int)):=by
 refine Fo ?_
 have h1:(BitVec.ofInt 64 (a:Int) &&& ~~~ BitVec.ofInt 64 3).toNat=a/4*4:=by
  rw[BitVec.toNat_and,BitVec.ofInt_natCast,BitVec.toNat_ofNat,A23 (by omega)]
  have h3:(~~~ BitVec.ofInt 64 3:BitVec 64).toNat=2^64-1-3:=by decide
  rw[h3]
  apply Nat.eq_of_testBit_eq
  intro i
  rw[Nat.testBit_and]
  have e:a/4*4=(a >>> 2) <<< 2:=by rw[Nat.shiftRight_eq_div_pow,Nat.shiftLeft_eq]
  rw[e,Nat.testBit_shiftLeft,Nat.testBit_shiftRight]
  have hm:(2^64-1-3:Nat)=(2^62-1) <<< 2:=by decide
  rw[hm,Nat.testBit_shiftLeft,Nat.testBit_two_pow_sub_one]
  by_cases h2:2≤i
  ·rw[show 2+(i-2)=i by omega]
   by_cases h4:i-2<62
   ·simp[h2,h4]
   ·have:a.testBit i=false:=Nat.testBit_lt_two_pow (A94 (show a<2^64 by omega) (B59 (by omega) (by omega)))
    simp[this]
  ·simp[h2]
 have hv:CT .andNot (.int .i64 (a:Int)) (.int .i64 3)=some (.int .i64 (IntKind.i64.wrap (((BitVec.ofInt 64 (a:Int) &&& ~~~ BitVec.ofInt 64 3).toNat:Nat):Int))):=rfl
 rw[hv,h1,Ci (by omega)]
end
section
open Go.Shelf
def Tryz.lays137_ren:Go.Shelf.Ren:=⟨fun|137=>165|217=>199|266=>211|n=>n,fun|9=>9|5=>5|3=>3|n=>n,fun|n=>n⟩
theorem Tryz.lays137:Go.Proofs.Lays.n137 Tryz.prog Tryz.lays137_ren:={
 mixed:=by kernel_rfl
 f137:=Tryz.func165.trans (A76 some (by kernel_rfl))
 f217:=Tryz.func199.trans (A76 some (by kernel_rfl))
 f266:=Tryz.func211.trans (A76 some (by kernel_rfl))
 t3:=Tryz.underlying3
 a3:=Tryz.isAgg3
 z3:=Tryz.sizeOf3
 v3:=Tryz.zeroValue3
 t5:=Tryz.underlying5
 a5:=Tryz.isAgg5
 z5:=Tryz.sizeOf5
 v5:=Tryz.zeroValue5
 t9:=Tryz.underlying9
 a9:=Tryz.isAgg9
 z9:=Tryz.sizeOf9
 v9:=Tryz.zeroValue9}
open Go.RowKit in
theorem Tryz.strings_IndexByte (s:ByteArray)(c:Int)(w:World) :
  Calls Tryz.prog 165 #[.string s,.int .u8 c] w fun e w'=>e=.returned (.int .i64 (Lib.indexByte s.data.toList c.toNat.toUInt8))∧w'=w:=Any.strings_IndexByte Tryz.lays137 s c w
open Go.RowKit Go.Lib in
end
section
set_option maxRecDepth 100000
def VK (Q:Kt)(a b c:Value)(h:H):Prop:=
 Unf 17 c h fun d=>CC (some .string) (AG TP 182) false d b h fun d=>Bq .ptr true false h d (.pointer none) fun f=>Az f true (AK a
 (Ucl 94 [(.string "file not found".toUTF8)] h fun a h=>Q (.tuple #[(.pointer none),(.pointer none),(.string ⟨#[]⟩),a]) h)
 (Q (.tuple #[c,d,b,.nilIface]) h)) (Q (.tuple #[c,d,b,.nilIface]) h)
def Ws (Q:Kt)(a b c d f:Value)(h:H):Prop:=
 Ucl 152 [a,c,d] h fun a h=>Bq .ptr true false h a (.pointer none) fun c=>Az c false (Ucl 93 [a] h fun c h=>Unt c
 (Ucl 94 [(.string "path not found".toUTF8)] h fun a h=>Q (.tuple #[(.pointer none),(.pointer none),(.string ⟨#[]⟩),a]) h)
 (VK Q b f a h)) (Ucl 94 [(.string "path not found".toUTF8)] h fun a h=>Q (.tuple #[(.pointer none),(.pointer none),(.string ⟨#[]⟩),a]) h)
def f92 (a b c:Value)(h:H)(Q:Kt):Prop:=
 Ucl 109 [a] h fun d h=>AD .add (.string ⟨#[47]⟩) b fun b=>Ucl 107 [b] h fun b h=>AZ .str b (some (.int .i64 1)) none fun b=>CL b fun f=>Ucm .eql f (.int .i64 0)
 (Q (.tuple #[d,d,(.string ⟨#[]⟩),.nilIface]) h)
 (Ucl 108 [b] h fun b h=>AO b 0 fun f=>AO b 1 fun b=>CL b fun g=>Ucf .eql g (.int .i64 0) (CL b fun g=>Ucm .gtr g (.int .i64 255)
 (Ucl 94 [(.string "invalid name".toUTF8)] h fun a h=>Q (.tuple #[(.pointer none),(.pointer none),(.string ⟨#[]⟩),a]) h)
 (Ws Q a c d f b h)) (Ucl 94 [(.string "invalid name".toUTF8)] h fun a h=>Q (.tuple #[(.pointer none),(.pointer none),(.string ⟨#[]⟩),a]) h))
def AHD (Q:Kt)(r:RS):Nat→DJ:=tab [(1022,.jn fun e h=>VK Q (e 2) (e 13) (e 14) h),
 (254,.jn fun e h=>Ws Q (e 0) (e 2) (e 10) (e 12) (e 13) h)]
theorem ACn {a b c:Value}{h:H}{Q:Kt}(x:f92 a b c h Q):Call TP 92 [a,b,c] h Q:=Bb (AHD Q) Tryz.func92 (by kernel_rfl) x
def ABp (a:Value)(h:H)(Q:Kt):Prop:=
 Ucl 164 [a,(.int .u8 47)] h fun b h=>AD .add b (.int .i64 1) fun c=>AZ .str a none (some c) fun c=>AD .add b (.int .i64 1) fun b=>AZ .str a (some b) none fun a=>Q (.tuple #[c,a]) h
theorem ZU {a:Value}{h:H}{Q:Kt}(x:ABp a h Q):Call TP 108 [a] h Q:=Bb nT Tryz.func108 (by kernel_rfl) x
def ACd (a:Value)(h:H)(Q:Kt):Prop:=
 Ucl 165 [a,(.int .u8 47)] h fun b h=>Ucm .geq b (.int .i64 0)
 (AZ .str a none (some b) fun c=>AD .add b (.int .i64 1) fun b=>AZ .str a (some b) none fun a=>Q (.tuple #[c,a]) h)
 (Q (.tuple #[a,(.string ⟨#[]⟩)]) h)
theorem Z6 {a:Value}{h:H}{Q:Kt}(x:ACd a h Q):Call TP 110 [a] h Q:=Bb nT Tryz.func110 (by kernel_rfl) x
def Qa (Q:Kt)(r1:R2)(a b:Value)(h:H):Prop:=
 Ucl 110 [a] h fun a h=>AO a 0 fun c=>AO a 1 fun a=>Unf 17 b h fun b=>CC (some .string) (AG TP 182) false b c h fun b=>r1 a b h
def Qo (Q:Kt)(r1:R2)(a b:Value)(h:H):Prop:=
 Bq .ptr true true h b (.pointer none) fun c=>Az c true (CL a fun c=>Ucm .neq c (.int .i64 0)
 (Qa Q r1 a b h)
 (Q b h)) (Q b h)
def WL (Q:Kt)(a b:Value)(h:H):Prop:=Bx (fun r1 a b h=>Qo Q r1 a b h) a b h
def ABx (a b c:Value)(h:H)(Q:Kt):Prop:=
 WL Q c b h
def AFP (Q:Kt)(r:RS):Nat→DJ:=tab [(226,.jn fun e h=>Qa Q (u2 (r 28)) (e 2) (e 7) h),
 (57,.lp [] [2,7] fun s e l h=>Qo Q (u2 s) (gl l 0) (gl l 1) h)]
theorem Yq {a b c:Value}{h:H}{Q:Kt}(x:ABx a b c h Q):Call TP 152 [a,b,c] h Q:=Bb (AFP Q) Tryz.func152 (by kernel_rfl) x
def Pw (Q:Kt)(r1:R1)(a b c:Value)(h:H):Prop:=
 Ucm .geq c (.int .i64 0)
 (BQ a c fun a=>Ucm .eql a b
 (Q c h)
 (AD .sub c (.int .i64 1) fun a=>r1 a h))
 (Q (.int .i64 (-1)) h)
def ADB (Q:Kt)(a b c:Value)(h:H):Prop:=A1 (fun r1 c h=>Pw Q r1 a b c h) c h
def ADA (a b:Value)(h:H)(Q:Kt):Prop:=
 CL a fun c=>AD .sub c (.int .i64 1) fun c=>ADB Q a b c h
def AFZ (Q:Kt)(r:RS):Nat→DJ:=tab [(53,.lp [0,1] [5] fun s e l h=>Pw Q (u1 s) (e 0) (e 1) (gl l 0) h)]
theorem Yh {a b:Value}{h:H}{Q:Kt}(x:ADA a b h Q):Call TP 164 [a,b] h Q:=Bb (AFZ Q) Tryz.func164 (by kernel_rfl) x
end
section
set_option maxRecDepth 100000
def f98 (a b:Value)(h:H)(Q:Kt):Prop:=
 Unf 7 a h fun c=>Bq .iface true true h c .nilIface fun c=>AK c
 (Unf 7 a h fun a=>Q (.tuple #[(.int .i64 0),a]) h)
 (Unf 4 a h fun c=>Ab b fun d=>AD .add c d fun c=>Unf 10 a h fun d=>Ucm .gtr c d
 (Unf 10 a h fun b=>Ae (.struct [(0,1)]) (AG TP 220) [(0,b)] fun b=>Uff 7 a fun c=>AJ 1 c (.iface 220 b) h fun h=>Unf 7 a h fun a=>Q (.tuple #[(.int .i64 0),a]) h)
 (Unf 0 a h fun c=>Ucl 117 [c,b] h fun _ h=>Unf 4 a h fun c=>Ab b fun d=>AD .add c d fun c=>Uff 4 a fun a=>AJ 1 a c h fun h=>Ab b fun a=>Q (.tuple #[a,.nilIface]) h))
theorem Ms {a b:Value}{h:H}{Q:Kt}(x:f98 a b h Q):Call TP 98 [a,b] h Q:=Bb nT Tryz.func98 (by kernel_rfl) x
def ZD (a:Value)(h:H)(Q:Kt):Prop:=
 Unf 4 a h fun a=>AD .quo a (.int .i64 4096) fun a=>AV .u32 a fun a=>Q a h
theorem Ny {a:Value}{h:H}{Q:Kt}(x:ZD a h Q):Call TP 100 [a] h Q:=Bb nT Tryz.func100 (by kernel_rfl) x
def AAn (a b:Value)(h:H)(Q:Kt):Prop:=
 AV .i64 b fun b=>AD .mul b (.int .i64 4096) fun b=>Uff 4 a fun c=>AJ 1 c b h fun h=>Unf 7 a h fun b=>Bq .iface true true h b .nilIface fun b=>AK b
 (Q (.tuple #[]) h)
 (Unf 0 a h fun b=>Unf 4 a h fun a=>Uff 1 b fun b=>AJ 1 b a h fun h=>Q (.tuple #[]) h)
theorem Jt {a b:Value}{h:H}{Q:Kt}(x:AAn a b h Q):Call TP 101 [a,b] h Q:=Bb nT Tryz.func101 (by kernel_rfl) x
def Xt (a b:Value)(h:H)(Q:Kt):Prop:=
 Unf 7 a h fun c=>Bq .iface true true h c .nilIface fun c=>AK c
 (Unf 7 a h fun a=>Q (.tuple #[(.int .i64 0),a]) h)
 (Unf 4 a h fun c=>AD .add c b fun c=>Unf 10 a h fun d=>Ucm .gtr c d
 (Unf 10 a h fun b=>Ae (.struct [(0,1)]) (AG TP 220) [(0,b)] fun b=>Uff 7 a fun c=>AJ 1 c (.iface 220 b) h fun h=>Unf 7 a h fun a=>Q (.tuple #[(.int .i64 0),a]) h)
 (Uff 0 a fun c=>Uld c h fun d=>AY (AG TP 5) 1 1 5 b b h fun f h=>((Ukp c h d)∧Ucl 117 [d,f] h fun _ h=>Unf 4 a h fun c=>AD .add c b fun c=>Uff 4 a fun a=>AJ 1 a c h fun h=>Q (.tuple #[b,.nilIface]) h)))
theorem NI {a b:Value}{h:H}{Q:Kt}(x:Xt a b h Q):Call TP 116 [a,b] h Q:=Bb nT Tryz.func116 (by kernel_rfl) x
def I2 (Q:Kt)(a b:Value)(h:H):Prop:=
 Unf 0 a h fun c=>Unf 1 a h fun d=>AZ (.slice 1) c (some d) none fun c=>DI 1 c b h fun _ h=>Unf 1 a h fun c=>Ab b fun b=>AD .add c b fun b=>Uff 1 a fun a=>AJ 1 a b h fun h=>Q (.tuple #[]) h
def UG (a b:Value)(h:H)(Q:Kt):Prop:=
 Unf 1 a h fun c=>Ab b fun d=>AD .add c d fun c=>Unf 0 a h fun d=>Ab d fun d=>Ucm .gtr c d
 (Unf 0 a h fun d=>Unf 0 a h fun f=>Ab f fun f=>AD .sub c f fun c=>CI 5 (AG TP 5) 1 1 d c h fun c h=>Uff 0 a fun d=>AJ 1 d c h fun h=>I2 Q a b h)
 (I2 Q a b h)
def AFW (Q:Kt)(r:RS):Nat→DJ:=tab [(6,.jn fun e h=>I2 Q (e 0) (e 1) h)]
theorem Nt {a b:Value}{h:H}{Q:Kt}(x:UG a b h Q):Call TP 117 [a,b] h Q:=Bb (AFW Q) Tryz.func117 (by kernel_rfl) x
def ABr (a:Value)(h:H)(Q:Kt):Prop:=
 Unf 4 a h fun b=>AD .rem b (.int .i64 4096) fun b=>Ucm .neq b (.int .i64 0)
 (Unf 4 a h fun b=>AD .rem b (.int .i64 4096) fun b=>AD .sub (.int .i64 4096) b fun b=>Ucl 116 [a,b] h fun a h=>AO a 0 fun _=>AO a 1 fun _=>Q (.tuple #[]) h)
 (Q (.tuple #[]) h)
theorem Y7 {a:Value}{h:H}{Q:Kt}(x:ABr a h Q):Call TP 191 [a] h Q:=Bb nT Tryz.func191 (by kernel_rfl) x
end
section
variable {h:H} {k:Value→Prop} {kt Q:Kt} {x y r:Res}
theorem AA7 {db:Nat}{T:TypeId}{bv s:Value}{B news:Bs}{pos:Nat}(b:BufV bv B r)(w:AN (pts db (.cells ⟨[bv,.int .i64 pos]⟩ T (0,0))+(r+x)) h)(d:RdX x s news)
  (hl:B.length≤140737488355328) (hp:0<news.length) (hB:pos+news.length≤B.length)
  (K:∀ bv r h,BufV bv (setL B pos news) r→AN (pts db (.cells ⟨[bv,.int .i64 ((pos+news.length:Nat):Int)]⟩ T (0,0))+(r+x)) h→Q (.tuple #[]) h):I2 Q (Pt db) s h:=by
 obtain⟨a,c,rfl⟩:=d.len
 cases b with
 | nil=>simp only[A61] at hB;omega
 | own hn=>
  rename_i bb n all
  have hlen:(all.take n).length=n:=by simp[A30 hn]
  rw[hlen] at hB hl
  unfold I2 Unf Uff
  simp (disch:=omega) only[go_sem,AF w,A29]
  rw[Res.left_comm] at w
  refine FN w d.addR (by omega) (by omega) fun h w=>?_
  simp (disch:=omega) only[go_sem,AF w]
  refine Gy w rfl (by simp) rfl fun h w=>?_
  rw[Res.left_comm] at w
  exact K _ _ _ (.own' (by rw[AS (by omega)];exact hn) (AS (by omega)) (Iu hB hn)) w
theorem ACY {db:Nat}{T:TypeId}{bv s:Value}{B news:Bs}{pos:Nat}(b:BufV bv B r)(w:AN (pts db (.cells ⟨[bv,.int .i64 pos]⟩ T (0,0))+(r+x)) h)(d:RdX x s news)
  (hl:pos+news.length≤140737488355328) (hB:B.length≤140737488355328) (hp:0<news.length)
  (K:∀ bv r h,BufV bv (BG B pos news) r→AN (pts db (.cells ⟨[bv,.int .i64 ((pos+news.length:Nat):Int)]⟩ T (0,0))+(r+x)) h→Q (.tuple #[]) h):UG (Pt db) s h Q:=by
 obtain⟨a,c,rfl⟩:=d.len
 unfold UG Unf Ucm Uff
 simp (disch:=omega) only[go_sem,AF w]
 obtain⟨a2,c2,hbv⟩:=b.len
 subst hbv
 simp (disch:=omega) only[go_sem]
 refine AX (fun hc=>?_) (fun hc=>?_)
 ·simp (disch:=omega) only[go_sem]
  rw[Res.left_comm] at w
  refine II b w (by omega) fun bv r h b w=>?_
  rw[Res.left_comm] at w
  obtain⟨a3,c3,rfl⟩:=b.len
  refine Gy w rfl (by simp) rfl fun h w=>?_
  exact AA7 b w d (by simp;omega) hp (by simp;omega) K
 ·refine AA7 b w d (by omega) hp (by omega) fun bv r h b w=>K bv r h ?_ w
  unfold BG
  rw[show pos+news.length-B.length=0 by omega]
  simpa using b
theorem AF7 {db:Nat}{T:TypeId}{bv s:Value}{B:Bs}{pos:Nat}(b:BufV bv B r)(w:AN (pts db (.cells ⟨[bv,.int .i64 pos]⟩ T (0,0))+(r+x)) h)(d:RdX x s [])(hl:pos≤B.length)(hB:B.length≤140737488355328)
  (K:∀ h,AN (pts db (.cells ⟨[bv,.int .i64 pos]⟩ T (0,0))+(r+x)) h→Q (.tuple #[]) h):UG (Pt db) s h Q:=by
 obtain⟨a,c,rfl⟩:=d.len
 obtain⟨a2,c2,hbv⟩:=b.len
 have hsl:∀ k:Value→Prop,(∀ a' n' c',(a'=none∨∃ bb o all,a'=some ⟨bb,o,none⟩∧r=buf bb all∧o≤all.length)→k (.slice a' n' c'))→AZ (.slice 1) bv (some (.int .i64 (pos:Int))) none k:=fun k hk=>by
  cases b with
  | nil=>
   have:pos=0:=by simpa using hl
   subst this
   exact⟨.slice none 0 0,rfl,hk _ _ _ (.inl rfl)⟩
  | own hn=>
   rename_i bb n all
   have hlen:(all.take n).length=n:=by simp[A30 hn]
   rw[hlen] at hl
   by_cases hc:pos=all.length
   ·refine⟨.slice (some ⟨bb,0,none⟩) (n-pos) (all.length-pos),?_,hk _ _ _ (.inr ⟨bb,0,all,rfl,rfl,by omega⟩)⟩
    simp[A6,Ay,hl,hn,hc]
    omega
   ·rw[Gc hl hn hc]
    exact hk _ _ _ (.inr ⟨bb,_,all,rfl,rfl,by omega⟩)
 unfold UG Unf Ucm Uff
 simp (disch:=omega) only[go_sem,AF w,A61]
 rw[hbv]
 simp (disch:=omega) only[go_sem,A61,A58,A08]
 unfold I2 Unf Uff
 simp (disch:=omega) only[go_sem,AF w,A61]
 refine hsl _ fun a' n' c' ha=>?_
 have hcopy:∀ kt:Kt,kt (.int .i64 0) h→DI 1 (.slice a' n' c') (.slice a 0 c) h kt:=fun kt hk=>by
  refine⟨a',n',c',0,#[],rfl,rfl,?_,?_⟩
  ·have:=(d.rd w.right.right).src 0 (A39 _)
   simpa[bcs] using this
  ·rcases ha with rfl|⟨bb,o,all,rfl,hr,ho⟩
   ·exact .inl ⟨rfl,by simpa using hk⟩
   ·subst hr
    refine .inr ⟨_,bcs all,5,rfl,rfl,w.right.left.one,by simp[CH];exact ho,rfl,?_⟩
    have:h.setIfInBounds bb (.cells (Ai (bcs all) o []) 5 (0,0))=h:=by
     apply B02
     intro i
     rw[A47]
     have hb:=w.right.left.one
     by_cases hi:bb=i
     ·subst hi
      rw[A03 rfl,A03 (A46.1 hb).1,hb];rfl
     ·rw[A05 hi]
    rw[show (#[]:Array Value).toList=[] from rfl,this]
    simpa using hk
 refine hcopy _ ?_
 simp (disch:=omega) only[go_sem,AF w,A61,A58]
 refine Gy w rfl (by simp) rfl fun h w=>?_
 exact K h w
structure WS where
 wb:Nat
 db:Nat
 dv:Value
 B:Bs
 dr:Res
 dpos:Nat
 inv:Value
 nm:Value
 cur:Value
 pos:Nat
 dw:Nat
 dm:Nat
 ini:Bool
 inl:Bool
 max:Nat
 gd:Nat
abbrev WS.cells (s:WS):Array Value:=⟨[Pt s.db,s.inv,s.nm,s.cur,.int .i64 s.pos,.int .i64 s.dw,.int .i64 s.dm,.nilIface,.bool s.ini,.bool s.inl,.int .i64 s.max,.int .u32 s.gd]⟩
abbrev WS.res (s:WS):Res:=pts s.wb (.cells s.cells 184 (0,0))+(pts s.db (.cells ⟨[s.dv,.int .i64 s.dpos]⟩ 121 (0,0))+s.dr)
structure WS.OK (s:WS):Prop where
 buf:BufV s.dv s.B s.dr
 len:s.B.length≤s.max
 max:s.max≤1099511627776
theorem s98 {s:WS}{v:Value}{news:Bs}(ok:s.OK)(w:AN (s.res+x) h)(d:RdX x v news)(hp:0<news.length)(hm:s.pos+news.length≤s.max)(hpos:s.dpos=s.pos)
  (K:∀ dv r h,WS.OK {s with dv:=dv,dr:=r,B:=BG s.B s.pos news,dpos:=s.pos+news.length,pos:=s.pos+news.length} →
   AN (WS.res {s with dv:=dv,dr:=r,B:=BG s.B s.pos news,dpos:=s.pos+news.length,pos:=s.pos+news.length}+x) h→Q (.tuple #[.int .i64 (news.length:Nat),.nilIface]) h):f98 (Pt s.wb) v h Q:=by
 have hmax:=ok.max
 have hlen:=ok.len
 obtain⟨a,c,hv⟩:=d.len
 unfold f98 Unf Ucm Uff Ucl
 rw[hv]
 simp (disch:=omega) only[go_sem,AF w,A08]
 rw[←hv]
 refine Nt (ACY (x:=pts s.wb (.cells s.cells 184 (0,0))+x) (pos:=s.dpos) (T:=121) ok.buf (w.cast (by unfold WS.res;ac_rfl)) d.addR (by omega) (by omega) hp fun bv r h b w=>?_)
 simp (disch:=omega) only[go_sem,AF w]
 refine AL w (WS.cells {s with pos:=s.pos+news.length}) rfl rfl (by simp) rfl fun h w=>?_
 refine K bv r h ⟨by rw[hpos] at b;exact b,?_,hmax⟩ (w.cast ?_)
 ·simp only[Ei];omega
 ·rw[hpos];unfold WS.res;ac_rfl
end
section
set_option maxRecDepth 100000
def f57 (a b:Value)(h:H)(Q:Kt):Prop:=
 Ab b fun c=>Ucm .eql c (.int .i64 0)
 (Q (.tuple #[(.int .i64 0),.nilIface]) h)
 (Unf 5 a h fun c=>Ab b fun d=>AD .add c d fun c=>Unf 6 a h fun d=>Ucm .gtr c d
 (Ucl 94 [(.string "wrote too much".toUTF8)] h fun a h=>Q (.tuple #[(.int .i64 0),a]) h)
 (Unf 3 a h fun c=>Unf 14 c h fun c=>AD .and c (.int .u32 268435456) fun c=>Ucm .neq c (.int .u32 0)
 (Unf 3 a h fun c=>Unf 15 c h fun c=>Unf 5 a h fun d=>AZ (.slice 1) c (some d) none fun c=>DI 1 c b h fun _ h=>Unf 5 a h fun c=>Ab b fun d=>AD .add c d fun c=>Uff 5 a fun a=>AJ 1 a c h fun h=>Ab b fun a=>Q (.tuple #[a,.nilIface]) h)
 (Ucl 98 [a,b] h fun b h=>AO b 0 fun c=>AO b 1 fun b=>Unf 5 a h fun d=>AD .add d c fun d=>Uff 5 a fun a=>AJ 1 a d h fun h=>Q (.tuple #[c,b]) h)))
theorem Ip {a b:Value}{h:H}{Q:Kt}(x:f57 a b h Q):Call TP 57 [a,b] h Q:=Bb nT Tryz.func57 (by kernel_rfl) x
def Mj (Q:Kt)(a b:Value)(h:H):Prop:=
 AK b
 (Unf 3 a h fun b=>Ucl 151 [a,b] h fun b h=>Bq .iface true true h b .nilIface fun c=>AK c
 (Q b h)
 (Uff 5 a fun b=>AJ 1 b (.int .i64 0) h fun h=>Uff 6 a fun b=>AJ 1 b (.int .i64 0) h fun h=>Uff 3 a fun b=>AJ 1 b (.pointer none) h fun h=>Unf 7 a h fun a=>Q a h))
 (Uff 5 a fun b=>AJ 1 b (.int .i64 0) h fun h=>Uff 6 a fun b=>AJ 1 b (.int .i64 0) h fun h=>Uff 3 a fun b=>AJ 1 b (.pointer none) h fun h=>Unf 7 a h fun a=>Q a h)
def Kp (Q:Kt)(a:Value)(h:H):Prop:=
 Unf 3 a h fun b=>Bq .ptr true false h b (.pointer none) fun b=>AK b
 (Q .nilIface h)
 (Unf 5 a h fun b=>Unf 6 a h fun c=>Ucm .neq b c
 (Ucl 94 [(.string "did not write the right amount".toUTF8)] h fun a h=>Q a h)
 (Unf 6 a h fun b=>Ucg .neq b (.int .i64 0) (Unf 3 a h fun b=>Unf 14 b h fun b=>AD .and b (.int .u32 268435456) fun b=>AD .eql b (.int .u32 0) fun b=>Mj Q a b h) (Mj Q a (.bool false) h)))
def UX (a:Value)(h:H)(Q:Kt):Prop:=
 Unf 8 a h fun b=>Unt b
 (Ucl 150 [a] h fun b h=>Bq .iface true true h b .nilIface fun c=>AK c
 (Q b h)
 (Kp Q a h))
 (Kp Q a h)
def AIP (Q:Kt)(r:RS):Nat→DJ:=tab [(250,.jn fun e h=>Mj Q (e 0) (e 45) h),
 (14,.jn fun e h=>Kp Q (e 0) h)]
theorem ND {a:Value}{h:H}{Q:Kt}(x:UX a h Q):Call TP 91 [a] h Q:=Bb (AIP Q) Tryz.func91 (by kernel_rfl) x
def f93 (a:Value)(h:H)(Q:Kt):Prop:=
 Ucl 104 [a] h fun a h=>AD .eql a (.int .u16 16384) fun a=>Q a h
theorem Pz {a:Value}{h:H}{Q:Kt}(x:f93 a h Q):Call TP 93 [a] h Q:=Bb nT Tryz.func93 (by kernel_rfl) x
def f96 (a b c d:Value)(h:H)(Q:Kt):Prop:=
 Unf 3 a h fun f=>Bq .ptr true true h f (.pointer none) fun f=>AK f
 (False )
 (Uff 2 a fun f=>AJ 1 f b h fun h=>Uff 3 a fun b=>AJ 1 b c h fun h=>Uff 5 a fun b=>AJ 1 b (.int .i64 0) h fun h=>Uff 6 a fun a=>AJ 1 a d h fun h=>Q (.tuple #[]) h)
theorem Vx {a b c d:Value}{h:H}{Q:Kt}(x:f96 a b c d h Q):Call TP 96 [a,b,c,d] h Q:=Bb nT Tryz.func96 (by kernel_rfl) x
def ADI (a:Value)(h:H)(Q:Kt):Prop:=
 Unf 6 a h fun a=>AD .and a (.int .u16 61440) fun a=>Q a h
theorem AAf {a:Value}{h:H}{Q:Kt}(x:ADI a h Q):Call TP 104 [a] h Q:=Bb nT Tryz.func104 (by kernel_rfl) x
def Yb (a:Value)(h:H)(Q:Kt):Prop:=
 Ucl 115 [a,(.int .u32 2)] h fun a h=>Q a h
theorem Sg {a:Value}{h:H}{Q:Kt}(x:Yb a h Q):Call TP 109 [a] h Q:=Bb nT Tryz.func109 (by kernel_rfl) x
def Ro (Q:Kt)(a b:Value)(h:H):Prop:=
 Unf 1 a h fun a=>AD .sub b (.int .u32 1) fun b=>Uil a b h fun a=>Q a h
def U9 (a b:Value)(h:H)(Q:Kt):Prop:=
 Ucf .eql b (.int .u32 0) (AV .i64 b fun c=>Unf 1 a h fun d=>Ab d fun d=>Ucm .gtr c d
 (Q (.pointer none) h)
 (Ro Q a b h)) (Q (.pointer none) h)
def AEj (Q:Kt)(r:RS):Nat→DJ:=tab [(14,.jn fun e h=>Ro Q (e 0) (e 1) h)]
theorem NS {a b:Value}{h:H}{Q:Kt}(x:U9 a b h Q):Call TP 115 [a,b] h Q:=Bb (AEj Q) Tryz.func115 (by kernel_rfl) x
end
section
variable {h:H} {k:Value→Prop} {kt Q:Kt} {x y r:Res}
theorem YD {B:Bs}{pos:Nat}(hp:pos≤B.length):BG B pos []=B:=by
 unfold BG setL
 simp only[A61,A58,A22]
 rw[show pos-B.length=0 by omega]
 simp
theorem AGp {db:Nat}{T:TypeId}{bv s:Value}{B news:Bs}{pos:Nat}(b:BufV bv B r)(w:AN (pts db (.cells ⟨[bv,.int .i64 pos]⟩ T (0,0))+(r+x)) h)(d:RdX x s news)
  (hl:pos+news.length≤140737488355328) (hB:B.length≤140737488355328) (hp:news.length=0→pos≤B.length)
  (K:∀ bv r h,BufV bv (BG B pos news) r→AN (pts db (.cells ⟨[bv,.int .i64 ((pos+news.length:Nat):Int)]⟩ T (0,0))+(r+x)) h→Q (.tuple #[]) h):UG (Pt db) s h Q:=by
 by_cases h0:0<news.length
 ·exact ACY b w d hl hB h0 K
 ·have:news=[]:=A69.1 (by omega)
  subst this
  refine AF7 b w d (hp rfl) hB fun h w=>K bv r h ?_ w
  rw[YD (hp rfl)];exact b
theorem AGG {s:WS}{n:Nat}(ok:s.OK)(w:AN (s.res+x) h)(hp:n=0→s.pos≤s.B.length)(hm:s.pos+n≤s.max)(hpos:s.dpos=s.pos)
  (K:∀ dv r h,WS.OK {s with dv:=dv,dr:=r,B:=BG s.B s.pos (List.replicate n 0),dpos:=s.pos+n,pos:=s.pos+n} →
   AN (WS.res {s with dv:=dv,dr:=r,B:=BG s.B s.pos (List.replicate n 0),dpos:=s.pos+n,pos:=s.pos+n}+x) h→Q (.tuple #[.int .i64 (n:Nat),.nilIface]) h):Xt (Pt s.wb) (.int .i64 (n:Int)) h Q:=by
 have hmax:=ok.max
 have hlen:=ok.len
 unfold Xt Unf Ucm Uff Uld Ukp Ucl
 simp (disch:=omega) only[go_sem,AF w,A08]
 refine ER w (by omega) fun mb h w=>⟨Ad w rfl,?_⟩
 refine Nt (AGp (x:=pts s.wb (.cells s.cells 184 (0,0))+(buf mb (List.replicate n 0)+x)) (pos:=s.dpos) (T:=121) (news:=List.replicate n 0) ok.buf (w.cast (by unfold WS.res;ac_rfl))
  (RdX.addR (.ofBuf (by simp))) (by simp;omega) (by omega) (by simp;omega) fun bv r h b w=>?_)
 simp (disch:=omega) only[go_sem,AF w]
 refine AL w (WS.cells {s with pos:=s.pos+n}) rfl rfl (by simp) rfl fun h w=>?_
 refine K bv r h ⟨by rw[hpos] at b;exact b,?_,hmax⟩ (AN.left (y:=buf mb (List.replicate n 0)) (w.cast ?_))
 ·simp only[Ei,A09];omega
 ·rw[hpos];simp only[A09];unfold WS.res;ac_rfl
theorem AAG {s:WS}{n:Nat}(w:AN (s.res+x) h)(hn:n<4294967296)
  (K:∀ h,AN (WS.res {s with dpos:=n*4096,pos:=n*4096}+x) h→Q (.tuple #[]) h):AAn (Pt s.wb) (.int .u32 (n:Int)) h Q:=by
 unfold AAn Uff Unf
 simp (disch:=omega) only[go_sem,AF w]
 refine AL w (WS.cells {s with pos:=n*4096}) rfl rfl (by simp) rfl fun h w=>?_
 simp (disch:=omega) only[go_sem,AF w]
 exact AL w ⟨[s.dv,.int .i64 (n*4096:Nat)]⟩ rfl rfl (by simp) rfl fun h w=>K h w
theorem s100 {s:WS}(ok:s.OK)(hp:s.pos≤s.max)(w:AN (s.res+x) h)(K:Q (.int .u32 (s.pos/4096:Nat)) h):ZD (Pt s.wb) h Q:=by
 have hmax:=ok.max
 unfold ZD Unf
 simp (disch:=omega) only[go_sem,AF w]
 exact K
theorem s96 {s:WS}{nm:ByteArray}{p:Value}{n:Nat}(w:AN (s.res+x) h)(hc:s.cur=.pointer none)(hp:∃ a,p=.pointer a)
  (K:∀ h,AN (WS.res {s with nm:=.string nm,cur:=p,dw:=0,dm:=n}+x) h→Q (.tuple #[]) h):f96 (Pt s.wb) (.string nm) p (.int .i64 (n:Int)) h Q:=by
 obtain⟨a,rfl⟩:=hp
 unfold f96 Unf Uff
 simp (disch:=omega) only[go_sem,AF w,hc]
 refine AL w (WS.cells {s with nm:=.string nm}) rfl rfl (by simp) rfl fun h w=>?_
 refine AL w (WS.cells {s with nm:=.string nm,cur:=.pointer a}) rfl rfl (by simp) rfl fun h w=>?_
 refine AL w (WS.cells {s with nm:=.string nm,cur:=.pointer a,dw:=0}) rfl rfl (by simp) rfl fun h w=>?_
 exact AL w (WS.cells {s with nm:=.string nm,cur:=.pointer a,dw:=0,dm:=n}) rfl rfl (by simp) rfl fun h w=>K h w
theorem AHO {s:WS}(ok:s.OK)(w:AN (s.res+x) h)(hm:s.pos+4096≤s.max)(hpos:s.dpos=s.pos)(hB:s.B.length≤s.pos)
  (K:∀ dv r h n,n=(4096-s.pos%4096)%4096→WS.OK {s with dv:=dv,dr:=r,B:=if n=0 then s.B else BG s.B s.pos (List.replicate n 0),dpos:=s.pos+n,pos:=s.pos+n} →
   AN (WS.res {s with dv:=dv,dr:=r,B:=if n=0 then s.B else BG s.B s.pos (List.replicate n 0),dpos:=s.pos+n,pos:=s.pos+n}+x) h→Q (.tuple #[]) h):ABr (Pt s.wb) h Q:=by
 have hmax:=ok.max
 unfold ABr Unf Ucm Ucl
 simp (disch:=omega) only[go_sem,AF w]
 refine AX (fun hc=>?_) (fun hc=>?_)
 ·have h0:s.pos%4096≠0:=by omega
  have hs:AD .sub (.int .i64 4096) (.int .i64 ((s.pos%4096:Nat):Int))=fun k=>k (.int .i64 ((4096-s.pos%4096:Nat):Int)):=by
   funext k
   have:=Vy (kk:=.i64) (a:=4096) (b:=s.pos%4096) (k:=k) (by omega)
   rw[Ci (by omega)] at this
   exact this
  rw[hs]
  refine NI (AGG ok w (by omega) (by omega) hpos fun dv r h ok w=>?_)
  simp (disch:=omega) only[go_sem]
  refine K dv r h (4096-s.pos%4096) (by omega) ?_ ?_
  ·rw[A05 (by omega)];exact ok
  ·rw[A05 (by omega)];exact w
 ·have h0:s.pos%4096=0:=by omega
  refine K s.dv s.dr h 0 (by omega) ?_ ?_
  ·exact⟨ok.buf,ok.len,ok.max⟩
  ·refine w.cast ?_
   unfold WS.res
   simp only[A58,if_true]
   rw[hpos]
end
section
variable {h:H} {k:Value→Prop} {kt Q:Kt} {x y r:Res}
theorem AIZ {l:Bs}{c:UInt8}(K:Q (.int .i64 (Lib.indexByte l c)) h):Call TP 165 [str l,.int .u8 (c.toNat:Int)] h Q:=fun w hw=>
 (Tryz.strings_IndexByte ⟨l.toArray⟩ (c.toNat:Int) w).mono (by
  rintro e w' ⟨rfl,rfl⟩
  refine⟨As,?_⟩
  rw[hw]
  simpa using K)
def Ft (p:Bs):Bs×Bs:=(p.takeWhile (· != 47),(p.dropWhile (· != 47)).drop 1)
theorem Q6 (p:Bs):(Lib.indexByte p 47 = -1∧Ft p=(p,[]))∨∃ n:Nat,Lib.indexByte p 47=n∧n<p.length∧Ft p=(p.take n,p.drop (n+1)):=by
 induction p with
 | nil=>exact .inl ⟨rfl,rfl⟩
 | cons b l ih=>
  unfold Lib.indexByte
  by_cases hb:b=47
  ·subst hb
   exact .inr ⟨0,by simp,by simp,by simp[Ft]⟩
  ·have h1:(b == 47)=false:=by simpa using hb
   have h2:(b != 47)=true:=by simpa using hb
   rw[h1]
   rcases ih with⟨e1,e2⟩|⟨n,e1,e2,e3⟩
   ·left
    unfold Ft at e2 ⊢
    simp only[B43] at e2
    refine⟨by simp[e1],?_⟩
    simp only[List.takeWhile_cons,List.dropWhile_cons,h2,if_true,e2.1,e2.2]
   ·right
    unfold Ft at e3 ⊢
    simp only[B43] at e3
    refine⟨n+1,?_,by simpa using e2,?_⟩
    ·have:¬((n:Int) = -1):=by omega
     simp[e1,this]
    ·simp only[List.takeWhile_cons,List.dropWhile_cons,h2,if_true,e3.1,e3.2];rfl
theorem AG7 {p:Bs}(hl:p.length<9223372036854775807)(K:Q (.tuple #[str (Ft p).1,str (Ft p).2]) h):ACd (str p) h Q:=by
 unfold ACd Ucl Ucm
 refine AIZ (c:=47) ?_
 rcases Q6 p with⟨e1,e2⟩|⟨n,e1,e2,e3⟩
 ·rw[e1]
  simp (disch:=omega) only[go_sem,A08]
  rw[e2] at K
  exact K
 ·rw[e1]
  simp (disch:=omega) only[go_sem,A04]
  rw[e3] at K
  exact K
def JS (p:Bs):Bs×Bs:=((p.reverse.dropWhile (· != 47)).reverse,(p.reverse.takeWhile (· != 47)).reverse)
theorem N0 {a b:Bs}(hb:∀ c∈b,c≠47)(ha:a=[]∨∃ a',a=a'++[47]):JS (a++b)=(a,b):=by
 unfold JS
 rw[List.reverse_append]
 have h1:∀ l:Bs,(∀ c∈l,c≠47)→∀ m:Bs,(m=[]∨∃ m',m=47::m')→(l++m).takeWhile (· != 47)=l∧(l++m).dropWhile (· != 47)=m:=by
  intro l
  induction l with
  | nil=>
   intro _ m hm
   rcases hm with rfl|⟨m',rfl⟩<;>simp
  | cons c l ih=>
   intro hl m hm
   have hc:(c != 47)=true:=by simpa using hl c (A13 ..)
   have:=ih (fun d hd=>hl d (A16 _ hd)) m hm
   simp only[A82,List.takeWhile_cons,List.dropWhile_cons,hc,if_true,this.1,this.2,and_self]
 have:=h1 b.reverse (by simpa using hb) a.reverse (by
  rcases ha with rfl|⟨a',rfl⟩
  ·left;rfl
  ·right;exact⟨a'.reverse,by simp⟩)
 rw[this.1,this.2,List.reverse_reverse,List.reverse_reverse]
theorem Ww {p:Bs}{n:Nat}(hn:n≤p.length)(hno:∀ i,n≤i→i<p.length→p[i]? ≠ some 47)(h0:n=0∨p[n-1]? = some 47):JS p=(p.take n,p.drop n):=by
 have:=N0 (a:=p.take n) (b:=p.drop n) (fun c hc=>?_) ?_
 ·rwa [B36] at this
 ·obtain⟨i,hi⟩:=List.mem_iff_getElem?.1 hc
  rw[A53] at hi
  rintro rfl
  exact hno (n+i) (by omega) (A02.1 hi).1 hi
 ·rcases B25 n with h|h
  ·left;subst h;rfl
  ·right
   have h1:=h0.resolve_left (by omega)
   refine⟨p.take (n-1),?_⟩
   apply A60
   intro i
   rw[List.getElem?_append,A41,A41]
   simp only[A20]
   by_cases hi:i<n-1
   ·rw[A03 (by omega),A03 (by omega),A03 hi]
   ·rw[A05 (show ¬i<min (n-1) p.length by omega)]
    by_cases hi2:i=n-1
    ·subst hi2
     rw[A03 (by omega),h1]
     simp[A30 (show n-1≤p.length by omega)]
    ·rw[A05 (by omega),A40 (by simp;omega)]
theorem AHu {p:Bs}(hl:p.length<9223372036854775807)(K:Q (.int .i64 ((JS p).1.length-1:Int)) h):ADA (str p) (.int .u8 47) h Q:=by
 unfold ADA
 simp only[go_sem,Bv]
 rw[Ge (by omega) (by omega)]
 refine Vq ⟨fun m v h'=>m≤p.length∧v=.int .i64 ((m:Int)-1)∧h'=h∧(∀ i,m≤i→i<p.length→p[i]? ≠ some 47),⟨p.length,A07 _,rfl,rfl,fun i h1 h2=>by omega⟩,?_⟩
 rintro n v h' ⟨hn,rfl,rfl,hno⟩
 unfold Pw Ucm
 simp only[go_sem]
 refine AX (fun hc=>?_) (fun hc=>?_)
 ·obtain⟨b,hb⟩:∃ b,p[n-1]? = some b:=⟨_,A00 (by omega)⟩
  have e:((n:Int)-1)=((n-1:Nat):Int):=by omega
  rw[e,CD hb,bc]
  simp only[go_sem]
  refine AX (fun h47=>?_) (fun h47=>?_)
  ·have:b=47:=A97.1 (show b.toNat=47 by omega)
   subst this
   rw[Ww hn hno (.inr hb)] at K
   simp only[A20,A30 hn] at K
   rw[←e];exact K
  ·rw[Bv,←e,Ge (by omega) (by omega)]
   refine⟨n-1,by omega,by omega,by congr 1;omega,trivial,fun i h1 h2=>?_⟩
   by_cases hi:i=n-1
   ·subst hi
    rw[hb]
    rintro h47'
    cases h47'
    exact h47 rfl
   ·exact hno i (by omega) h2
 ·have:n=0:=by omega
  subst this
  rw[Ww hn hno (.inl rfl)] at K
  simpa using K
theorem AHH {p:Bs}(hl:p.length<9223372036854775807)(K:Q (.tuple #[str (JS p).1,str (JS p).2]) h):ABp (str p) h Q:=by
 unfold ABp Ucl
 have hp:p=(JS p).1++(JS p).2:=by
  unfold JS
  simp only
  rw[←List.reverse_append,List.takeWhile_append_dropWhile,List.reverse_reverse]
 have hlen:(JS p).1.length≤p.length:=by
  have:=A76 List.length hp
  simp only[A01] at this
  omega
 refine Yh (AHu hl ?_)
 simp only[A0]
 rw[Ge (by omega) (by omega)]
 have e:((JS p).1.length-1+1:Int)=(((JS p).1.length:Nat):Int):=by omega
 rw[e,Pl hlen,JE hlen]
 have h0:∀ a b:Bs,p=a++b→p.take a.length=a∧p.drop a.length=b:=by
  rintro a b rfl
  simp
 obtain⟨h1,h2⟩:=h0 _ _ hp
 rw[h1,h2];exact K
end
section
set_option maxRecDepth 100000
def RM (Q:Kt)(r1:R2)(r2:R0)(a b c d f g:Value)(h:H):Prop:=
 Ufl 2 d h fun a=>AD .sub a (.int .i64 1) fun a=>AC 2 d fun b=>AJ 1 b a h fun h=>r2 h
def Pv (Q:Kt)(r1:R2)(r2:R0)(a b c d f g:Value)(h:H):Prop:=
 Ufl 2 d h fun i=>Ucg .gtr i g (Ufl 2 d h fun i=>Ucl 162 [d,i] h fun i h=>Ucm .neq i (.int .u8 47)
 (RM Q r1 r2 a b c d f g h)
 (r1 f g h)) (r1 f g h)
def Rn (Q:Kt)(r1:R2)(a b c d f g:Value)(h:H):Prop:=Kv (fun r2 h=>Pv Q r1 r2 a b c d f g h) h
def QC (Q:Kt)(r1:R2)(a b c d f:Value)(h:H):Prop:=
 Ucl 161 [d,(.int .u8 46)] h fun _ h=>Ucl 161 [d,(.int .u8 46)] h fun _ h=>Ufl 2 d h fun a=>r1 f a h
def Qv (Q:Kt)(r1:R2)(r3:R1)(a b c d f g:Value)(h:H):Prop:=
 Ucg .lss g c (BQ a g fun b=>Ucm .neq b (.int .u8 47)
 (BQ a g fun a=>Ucl 161 [d,a] h fun _ h=>AD .add g (.int .i64 1) fun a=>r3 a h)
 (r1 g f h)) (r1 g f h)
def Rh (Q:Kt)(r1:R2)(a b c d f g:Value)(h:H):Prop:=A1 (fun r3 g h=>Qv Q r1 r3 a b c d f g h) g h
def E0 (Q:Kt)(r1:R2)(a b c d f g:Value)(h:H):Prop:=
 Rh Q r1 a b c d g f h
def Id (Q:Kt)(r1:R2)(a b c d f g i:Value)(h:H):Prop:=
 AK i
 (AD .add f (.int .i64 2) fun f=>Ufl 2 d h fun i=>Ucm .gtr i g
 (Ufl 2 d h fun i=>AD .sub i (.int .i64 1) fun i=>AC 2 d fun j=>AJ 1 j i h fun h=>Rn Q r1 a b c d f g h)
 (Unt b
 (Ufl 2 d h fun g=>Ucm .gtr g (.int .i64 0)
 (Ucl 161 [d,(.int .u8 47)] h fun _ h=>QC Q r1 a b c d f h)
 (QC Q r1 a b c d f h))
 (r1 f g h)))
 (Az b true (Ufl 2 d h fun i=>Ucf .neq i (.int .i64 1) (LH .not b fun i=>Az i true (Ufl 2 d h fun i=>Ucm .neq i (.int .i64 0)
 (Ucl 161 [d,(.int .u8 47)] h fun _ h=>E0 Q r1 a b c d f g h)
 (E0 Q r1 a b c d f g h)) (E0 Q r1 a b c d f g h)) (Ucl 161 [d,(.int .u8 47)] h fun _ h=>E0 Q r1 a b c d f g h)) (LH .not b fun i=>Az i true (Ufl 2 d h fun i=>Ucm .neq i (.int .i64 0)
 (Ucl 161 [d,(.int .u8 47)] h fun _ h=>E0 Q r1 a b c d f g h)
 (E0 Q r1 a b c d f g h)) (E0 Q r1 a b c d f g h)))
def LJ (Q:Kt)(r1:R2)(a b c d f g i:Value)(h:H):Prop:=
 AK i
 (AD .add f (.int .i64 1) fun a=>r1 a g h)
 (BQ a f fun i=>Ucg .eql i (.int .u8 46) (AD .add f (.int .i64 1) fun i=>BQ a i fun i=>Ucg .eql i (.int .u8 46) (AD .add f (.int .i64 2) fun i=>Ucf .eql i c (AD .add f (.int .i64 2) fun i=>BQ a i fun i=>AD .eql i (.int .u8 47) fun i=>Id Q r1 a b c d f g i h) (Id Q r1 a b c d f g (.bool true) h)) (Id Q r1 a b c d f g (.bool false) h)) (Id Q r1 a b c d f g (.bool false) h))
def Qd (Q:Kt)(r1:R2)(a b c d f g:Value)(h:H):Prop:=
 Ucm .lss f c
 (BQ a f fun i=>Ucm .eql i (.int .u8 47)
 (AD .add f (.int .i64 1) fun a=>r1 a g h)
 (BQ a f fun i=>Ucg .eql i (.int .u8 46) (AD .add f (.int .i64 1) fun i=>Ucf .eql i c (AD .add f (.int .i64 1) fun i=>BQ a i fun i=>AD .eql i (.int .u8 47) fun i=>LJ Q r1 a b c d f g i h) (LJ Q r1 a b c d f g (.bool true) h)) (LJ Q r1 a b c d f g (.bool false) h)))
 (Ufl 2 d h fun a=>Ucm .eql a (.int .i64 0)
 (Q (.string ⟨#[46]⟩) h)
 (Ucl 163 [d] h fun a h=>Q a h))
def WJ (Q:Kt)(a b c d f g:Value)(h:H):Prop:=Bx (fun r1 f g h=>Qd Q r1 a b c d f g h) f g h
def Nb (Q:Kt)(a b c d f g:Value)(h:H):Prop:=
 WJ Q a b c d f g h
def ACL (a:Value)(h:H)(Q:Kt):Prop:=
 Ucm .eql a (.string ⟨#[]⟩)
 (Q (.string ⟨#[46]⟩) h)
 (BQ a (.int .i64 0) fun b=>AD .eql b (.int .u8 47) fun b=>CL a fun c=>Ae (.struct [(0,1),(1,1),(2,1)]) (AG TP 295) [(0,a)] fun d=>Umk 295 h fun f h=>AJ 3 f d h fun h=>AK b
 (Ucl 161 [f,(.int .u8 47)] h fun _ h=>Nb Q a b c f (.int .i64 1) (.int .i64 1) h)
 (Nb Q a b c f (.int .i64 0) (.int .i64 0) h))
def AFg (Q:Kt)(r:RS):Nat→DJ:=tab [(534936914,.jn fun e h=>RM Q (u2 (r 1020)) (u0 (r 66867114)) (e 0) (e 3) (e 4) (e 5) (e 6) (e 7) h),
 (133734229,.lp [0,3,4,5,6,7] [] fun s e l h=>Pv Q (u2 (r 1020)) (u0 s) (e 0) (e 3) (e 4) (e 5) (e 6) (e 7) h),
 (267468474,.jn fun e h=>QC Q (u2 (r 1020)) (e 0) (e 3) (e 4) (e 5) (e 6) h),
 (8358397,.lp [0,3,4,5,7] [6] fun s e l h=>Qv Q (u2 (r 1020)) (u1 s) (e 0) (e 3) (e 4) (e 5) (e 7) (gl l 0) h),
 (4179198,.jn fun e h=>E0 Q (u2 (r 1020)) (e 0) (e 3) (e 4) (e 5) (e 6) (e 7) h),
 (1044798,.jn fun e h=>Id Q (u2 (r 1020)) (e 0) (e 3) (e 4) (e 5) (e 6) (e 7) (e 80) h),
 (261198,.jn fun e h=>LJ Q (u2 (r 1020)) (e 0) (e 3) (e 4) (e 5) (e 6) (e 7) (e 60) h),
 (2041,.lp [0,3,4,5] [6,7] fun s e l h=>Qd Q (u2 s) (e 0) (e 3) (e 4) (e 5) (gl l 0) (gl l 1) h),
 (510,.jn fun e h=>Nb Q (e 0) (e 3) (e 4) (e 5) (e 6) (e 7) h)]
theorem AAK {a:Value}{h:H}{Q:Kt}(x:ACL a h Q):Call TP 107 [a] h Q:=Bb (AFg Q) Tryz.func107 (by kernel_rfl) x
def Kw (Q:Kt)(a b:Value)(h:H):Prop:=
 Unf 1 a h fun c=>Unf 2 a h fun d=>AI (.slice 1) c d fun c=>AJ 1 c b h fun h=>Unf 2 a h fun b=>AD .add b (.int .i64 1) fun b=>Uff 2 a fun a=>AJ 1 a b h fun h=>Q (.tuple #[]) h
def NJ (Q:Kt)(a b c:Value)(h:H):Prop:=
 AK c
 (Unf 2 a h fun b=>AD .add b (.int .i64 1) fun b=>Uff 2 a fun a=>AJ 1 a b h fun h=>Q (.tuple #[]) h)
 (Unf 0 a h fun c=>CL c fun c=>AY (AG TP 5) 1 1 5 c c h fun c h=>Uff 1 a fun d=>AJ 1 d c h fun h=>Unf 1 a h fun c=>Unf 0 a h fun d=>Unf 2 a h fun f=>AZ .str d none (some f) fun d=>DI 1 c d h fun _ h=>Kw Q a b h)
def AEV (a b:Value)(h:H)(Q:Kt):Prop:=
 Unf 1 a h fun c=>Bq .slice true false h c (.slice none 0 0) fun c=>AK c
 (Unf 2 a h fun c=>Unf 0 a h fun d=>CL d fun d=>Ucg .lss c d (Unf 0 a h fun c=>Unf 2 a h fun d=>BQ c d fun c=>AD .eql c b fun c=>NJ Q a b c h) (NJ Q a b (.bool false) h))
 (Kw Q a b h)
def AFN (Q:Kt)(r:RS):Nat→DJ:=tab [(6,.jn fun e h=>Kw Q (e 0) (e 1) h),
 (82,.jn fun e h=>NJ Q (e 0) (e 1) (e 31) h)]
theorem Mp {a b:Value}{h:H}{Q:Kt}(x:AEV a b h Q):Call TP 161 [a,b] h Q:=Bb (AFN Q) Tryz.func161 (by kernel_rfl) x
def AC9 (a b:Value)(h:H)(Q:Kt):Prop:=
 Unf 1 a h fun c=>Bq .slice true true h c (.slice none 0 0) fun c=>AK c
 (Unf 1 a h fun a=>Uil a b h fun a=>Q a h)
 (Unf 0 a h fun a=>BQ a b fun a=>Q a h)
theorem AAC {a b:Value}{h:H}{Q:Kt}(x:AC9 a b h Q):Call TP 162 [a,b] h Q:=Bb nT Tryz.func162 (by kernel_rfl) x
def AEQ (a:Value)(h:H)(Q:Kt):Prop:=
 Unf 1 a h fun b=>Bq .slice true false h b (.slice none 0 0) fun b=>AK b
 (Unf 0 a h fun b=>Unf 2 a h fun a=>AZ .str b none (some a) fun a=>Q a h)
 (Unf 1 a h fun b=>Unf 2 a h fun a=>AZ (.slice 1) b none (some a) fun a=>HI a h fun a=>Q a h)
theorem AAr {a:Value}{h:H}{Q:Kt}(x:AEQ a h Q):Call TP 163 [a] h Q:=Bb nT Tryz.func163 (by kernel_rfl) x
end
end Go.Proofs.YtollddkkdgoonaaGreatDoor
